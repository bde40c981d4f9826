import PyProof.Rows.All
import Wide.FinOn
import OpenK.AllK
import Wide.All
import PySem.Challenge.RW_pe0246_01
set_option Elab.async false
set_option maxRecDepth 100000
set_option linter.unusedVariables false
namespace Mine
open PySem PySem.W PySem.W.X


noncomputable abbrev PW := PySem.Challenge.pw_pe0246_01

inductive K where
  | base
  | ret (c : Code) (hd : Option Value) (k : Result → Sem Fin) (κ : K)

noncomputable def hdK (h₀ : Option Value) : K → Option Value
  | .base => h₀
  | .ret _ hd _ κ => match hd with
    | none => hdK h₀ κ
    | some v => some v

noncomputable def wC : Code → Nat
  | .builtin _ _ => 6
  | _ => 2
noncomputable def dK : K → Nat
  | .base => 0
  | .ret c _ _ κ => wC c + dK κ
noncomputable def nCaller : Nat := 35714603318786955769505017188
noncomputable def noC : Code → Bool
  | .builtin id _ => !Nat.beq (PySem.code id) nCaller
  | _ => true

noncomputable def pyT (a : Addr) (o : Obj) (args : Args) : Option (Sem Fin) := match o.data with
  | .func fd => match fd.scope.isGenerator, fd.scope.isCoroutine, fd.body with
    | false, false, .stmts body => some (do
      let compiled ← match fd.code with
        | .none => pure fd.qualname
        | c => do match ← field c 1 with
          | .str q _ => pure q
          | _ => pure fd.qualname
      let env ← newFunctionEnv fd.scope fd.globals fd.closure (← bindArgs fd args) (compiled ++ ".<locals>.") (some a) fd.code none fd.builtins
      let limit ← currentRecursionLimit
      match Nat.beq limit 1000 with
      | true => again (.func body env)
      | false => .unsupported "limit")
    | _, _, _ => none
  | _ => none

section
variable (w : World) (A : Around) (R : Result → Shared → Prop)
noncomputable def arK : K → Around
  | .base => A
  | .ret c hd _ κ => ((arK κ).under c).mark hd
noncomputable def endK : K → Result → Shared → Prop
  | .base => R
  | .ret c _ k κ => postR PW w (arK A κ) c (postC PW w (arK A κ) (endK κ)) (postE (endK κ)) k
noncomputable def Mn (c : Code) (κ : K) (t : Sem Fin) (s : Shared) : Prop :=
  wpOwn (model PW w) (arK A κ) c t (postC PW w (arK A κ) (endK w A R κ)) (postE (endK w A R κ)) s
end

theorem codeAny_of_Mn {w : World} {A : Around} {R : Result → Shared → Prop} {c : Code} {s : Shared} (h : Mn w A R c .base (denote table c) s) : codeAny (model PW w) A c R s :=
  y_code _ _ _ _ _ _ h

section
variable {w : World} {A : Around} {R : Result → Shared → Prop} {c : Code} {κ : K} {s : Shared}
theorem arK_handled {h₀ : Option Value} (hA : A.handled = h₀) : ∀ κ : K, (arK A κ).handled = hdK h₀ κ
  | .base => hA
  | .ret c hd k κ => by
    show (hd.or (arK A κ).handled) = _
    cases hd with
    | none => exact arK_handled hA κ
    | some v => rfl
theorem noC_caller {c : Code} (h : noC c = true) : c.isCaller = false := by
  cases hc : c.isCaller with
  | false => rfl
  | true =>
    unfold Code.isCaller at hc
    split at hc
    · rename_i a
      simp only [noC] at h
      have e : PySem.code "claim.caller" = nCaller := by decide +kernel
      rw [e, Nat.beq_refl] at h
      cases h
    · cases hc
theorem frames_le (c : Code) : c.frames ≤ 3 := by
  unfold Code.frames
  split <;> first | decide | (split <;> decide)
theorem weight_le {c : Code} (h : noC c = true) : c.weight ≤ wC c := by
  have hc := noC_caller h
  unfold Code.weight
  rw [hc]
  cases c with
  | builtin id a =>
    have := frames_le (.builtin id a)
    simp only [wC]
    split <;> split <;> simp <;> omega
  | _ =>
    have e1 : ∀ c : Code, (∀ id a, c ≠ .builtin id a) → c.isCreation = false := fun c hn => by
      unfold Code.isCreation; split
      · rename_i x y; exact absurd rfl (hn _ _)
      · rfl
    have e2 : ∀ c : Code, (∀ id a, c ≠ .builtin id a) → c.isGuard = false := fun c hn => by
      unfold Code.isGuard; split
      · rename_i x y; exact absurd rfl (hn _ _)
      · rfl
    rw [e1 _ (by intro _ _ q; cases q), e2 _ (by intro _ _ q; cases q)]
    simp only [wC, Code.frames, Bool.false_eq_true, if_false]
    split <;> omega
noncomputable def okK : K → Prop
  | .base => True
  | .ret c _ _ κ => noC c = true ∧ okK κ
theorem units_le (c : Code) : c.cUnits ≤ 5 * wC c := by
  cases c with
  | builtin id a =>
    have := frames_le (.builtin id a)
    simp only [Code.cUnits, wC]
    omega
  | call f a => simp [Code.cUnits, wC]
  | _ =>
    simp only [Code.cUnits, wC, Code.frames]
    split <;> omega
theorem arK_units : ∀ {κ : K}, (arK A κ).units ≤ A.units + 5 * dK κ
  | .base => Nat.le_refl _
  | .ret c hd k κ => by
    have ih := arK_units (κ := κ)
    have hw := units_le c
    show (arK A κ).units + c.cUnits ≤ A.units + 5 * (wC c + dK κ)
    omega
theorem arK_depth : ∀ {κ : K}, okK κ → (arK A κ).depth ≤ A.depth + dK κ
  | .base, _ => Nat.le_refl _
  | .ret c hd k κ, h => by
    have ih := arK_depth h.2
    have hw := weight_le h.1
    show (arK A κ).depth + c.weight ≤ A.depth + (wC c + dK κ)
    omega
end
end Mine

namespace Mine
open PySem PySem.W PySem.W.X
section
variable {w : World} {A : Around} {R : Result → Shared → Prop} {κ : K} {s : Shared}
theorem limit_pass {Γ : Ctx} {p : Pos} {Q : Fin → Pos → Shared → Prop} {E : Value → Pos → Shared → Prop} {B : Around} {X : Sem Fin} {s : Shared} (hΓ : Γ.In B) (hd : B.depth < 1000)
    (h : Sem.wp (model PW w) Γ (do let limit ← currentRecursionLimit; match Nat.beq limit 1000 with | true => X | false => .unsupported "limit") Q E p s) :
    Sem.wp (model PW w) Γ (do enterFrame; X) Q E p s := by
  have hsum : ((((Γ.code, p) :: Γ.below).map (·.1)).map (·.frames)).sum + ((((Γ.code, p) :: Γ.below).map (·.1)).filter Code.isCreation).length < recursionLimit := by
    have hge := frameCount_ge ((Γ.code, p) :: Γ.below)
    rw [frameCount_cons] at hge
    have := hΓ.2.1
    have : recursionLimit = 1000 := rfl
    omega
  have hlt : ¬ ((((Γ.code, p) :: Γ.below).map (·.1)).map (·.frames)).sum ≥ recursionLimit := by omega
  have hlt' : ¬ ((((Γ.code, p) :: Γ.below).map (·.1)).map (·.frames)).sum + ((((Γ.code, p) :: Γ.below).map (·.1)).filter Code.isCreation).length ≥ recursionLimit := by omega
  rw [Sem.wp_bind'] at h
  rw [Sem.wp_bind']
  unfold enterFrame
  rw [Sem.wp_bind']
  show Sem.wp (model PW w) Γ (currentRecursionLimit >>= _) _ _ p s
  rw [Sem.wp_bind']
  refine Sem.wp_mono _ _ _ (fun limit p' s' hl => ?_) (fun _ _ _ x => x) p s h
  cases hb : Nat.beq limit 1000 with
  | false =>
    rw [hb] at hl
    simp only [Sem.wp_unsupported] at hl
  | true =>
    rw [hb] at hl
    have e : limit = recursionLimit := Nat.eq_of_beq_eq_true hb
    subst e
    have hl' : Sem.wp (model PW w) Γ X Q E p' s' := hl
    show Sem.wp (model PW w) Γ (if nearTheLimitUnderAClaim (((Γ.code, p) :: Γ.below).map (·.1)) (((((Γ.code, p) :: Γ.below).map (·.1)).map (·.frames)).sum - 0 + ((((Γ.code, p) :: Γ.below).map (·.1)).filter Code.isCreation).length) recursionLimit = true then _ else _) _ _ p' s'
    rw [Nat.sub_zero, if_neg (by rw [not_nearTheLimit hΓ hd]; exact Bool.false_ne_true)]
    show Sem.wp (model PW w) Γ (if ((((Γ.code, p) :: Γ.below).map (·.1)).map (·.frames)).sum - 0 ≥ recursionLimit then _ else _) _ _ p' s'
    rw [Nat.sub_zero, if_neg hlt]
    show Sem.wp (model PW w) Γ (if ((((Γ.code, p) :: Γ.below).map (·.1)).map (·.frames)).sum - 0 + ((((Γ.code, p) :: Γ.below).map (·.1)).filter Code.isCreation).length ≥ recursionLimit then _ else _) _ _ p' s'
    rw [Nat.sub_zero, if_neg hlt']
    exact hl'
theorem py_sound {a : Addr} {o : Obj} {args : Args} {t' : Sem Fin} (ho : s.heap.get? a = some o) (hp : pyT a o args = some t') (hd : ((arK A κ).under (.call (.ref a) args)).depth < 1000)
    (h : Mn w A R (.call (.ref a) args) κ t' s) : Mn w A R (.call (.ref a) args) κ (denote table (.call (.ref a) args)) s := by
  intro Γ p hc hΓ
  have h' := h Γ p hc hΓ
  have hin : Γ.In ((arK A κ).under (.call (.ref a) args)) := hc ▸ hΓ.in
  unfold pyT at hp
  split at hp
  · rename_i fd hfd
    split at hp
    · rename_i body hg hco hb
      cases hp
      show Sem.wp _ Γ (callAny (.ref a) args) _ _ p s
      unfold callAny
      simp only
      rw [Sem.wp_bind']
      show Sem.wp _ Γ (Sem.load a none .pure) _ _ p s
      rw [Sem.wp_load]
      refine ⟨o, ho, ?_⟩
      rw [Sem.wp_pure]
      simp only [hfd, callFunction, hg, hco, hb]
      have tail : ∀ (cv : Value) (q : Str) (p1 : Pos) (s1 : Shared) (Q : Fin → Pos → Shared → Prop) (E : Value → Pos → Shared → Prop),
          Sem.wp (model PW w) Γ (do
            let bs ← bindArgs fd args
            let env ← newFunctionEnv fd.scope fd.globals fd.closure bs (q ++ Str.ofString ".<locals>.") (some a) cv none fd.builtins
            let limit ← currentRecursionLimit
            match Nat.beq limit 1000 with
            | true => again (.func body env)
            | false => .unsupported "limit") Q E p1 s1 →
          Sem.wp (model PW w) Γ (do
            let bs ← bindArgs fd args
            let env ← newFunctionEnv fd.scope fd.globals fd.closure bs (q ++ Str.ofString ".<locals>.") (some a) cv none fd.builtins
            enterFrame
            again (.func body env)) Q E p1 s1 := by
        intro cv q p1 s1 Q E h1
        rw [Sem.wp_bind'] at h1 ⊢
        refine Sem.wp_mono _ _ _ (fun bs p2 s2 h2 => ?_) (fun _ _ _ x => x) p1 s1 h1
        rw [Sem.wp_bind'] at h2 ⊢
        refine Sem.wp_mono _ _ _ (fun env p3 s3 h3 => ?_) (fun _ _ _ x => x) p2 s2 h2
        exact limit_pass hin hd h3
      generalize fd.code = cv at h' ⊢
      cases cv with
      | none =>
        simp only [pure_bind] at h' ⊢
        exact tail _ _ _ _ _ _ h'
      | _ =>
        simp only at h' ⊢
        rw [Sem.wp_bind'] at h' ⊢
        refine Sem.wp_mono _ _ _ (fun v p1 s1 h1 => ?_) (fun _ _ _ x => x) p s h'
        cases v <;> (simp only [pure_bind] at h1 ⊢; exact tail _ _ _ _ _ _ h1)
    · cases hp
  · cases hp
end
end Mine

namespace Mine
open PySem PySem.W PySem.W.X
noncomputable abbrev S := Str.ofString
noncomputable def stm (i : Nat) : Stmt := PW.main.body.getD i (.Pass ⟨0, 0, 0, 0⟩)
noncomputable def mth (i j : Nat) : Stmt := match stm i with
  | .ClassDef _ _ _ b _ _ _ _ _ _ _ => b.getD j (.Pass ⟨0, 0, 0, 0⟩)
  | s => s
noncomputable def e (P : Params) (n : String) (t : Tok) (v : Value) : DictEntry := ⟨PyData.keyHash P (S n), .str (S n) t, v⟩
noncomputable def fn (st : Stmt) (qual : Str) (g : Addr) (cl : List (Str × Addr)) (df kw doc mod : Value) (ann : Option Addr) (code ct : Value) (b : Addr) : Data := match st with
  | .FunctionDef n args body _ _ _ sc _ _ _ => .func { name := n, qualname := qual, params := args, body := .stmts body, scope := sc, globals := g, closure := cl, defaults := df, kwdefaults := kw, doc := doc, pyModule := mod, annotations := ann, code := code, closureTuple := ct, builtins := b }
  | _ => .plain
noncomputable def ob0 (P : Params) : Obj :=
  { cls := (.type "dict"), dict := none, data := (.dict [e P "__name__" 1 (.str (S "builtins") 160),
    e P "__doc__" 2 (.builtin "builtins.__doc__:str#opaque"),
    e P "__package__" 3 (.builtin "builtins.__package__:str#opaque"),
    e P "__loader__" 4 (.builtin "builtins.__loader__:shared#opaque"),
    e P "__spec__" 5 (.builtin "builtins.__spec__#opaque"),
    e P "__build_class__" 6 (.builtin "__build_class__"),
    e P "__import__" 7 (.builtin "__import__"),
    e P "abs" 8 (.builtin "abs"),
    e P "all" 9 (.builtin "all"),
    e P "any" 10 (.builtin "any"),
    e P "ascii" 11 (.builtin "ascii"),
    e P "bin" 12 (.builtin "bin"),
    e P "breakpoint" 13 (.builtin "breakpoint"),
    e P "callable" 14 (.builtin "callable"),
    e P "chr" 15 (.builtin "chr"),
    e P "compile" 16 (.builtin "compile"),
    e P "delattr" 17 (.builtin "delattr"),
    e P "dir" 18 (.builtin "dir"),
    e P "divmod" 19 (.builtin "divmod"),
    e P "eval" 20 (.builtin "eval"),
    e P "exec" 21 (.builtin "exec"),
    e P "format" 22 (.builtin "format"),
    e P "getattr" 23 (.builtin "getattr"),
    e P "globals" 24 (.builtin "globals"),
    e P "hasattr" 25 (.builtin "hasattr"),
    e P "hash" 26 (.builtin "hash"),
    e P "hex" 27 (.builtin "hex"),
    e P "id" 28 (.builtin "id"),
    e P "input" 29 (.builtin "input"),
    e P "isinstance" 30 (.builtin "isinstance"),
    e P "issubclass" 31 (.builtin "issubclass"),
    e P "iter" 32 (.builtin "iter"),
    e P "aiter" 33 (.builtin "aiter"),
    e P "len" 34 (.builtin "len"),
    e P "locals" 35 (.builtin "locals"),
    e P "max" 36 (.builtin "max"),
    e P "min" 37 (.builtin "min"),
    e P "next" 38 (.builtin "next"),
    e P "anext" 39 (.builtin "anext"),
    e P "oct" 40 (.builtin "oct"),
    e P "ord" 41 (.builtin "ord"),
    e P "pow" 42 (.builtin "pow"),
    e P "print" 43 (.builtin "print"),
    e P "repr" 44 (.builtin "repr"),
    e P "round" 45 (.builtin "round"),
    e P "setattr" 46 (.builtin "setattr"),
    e P "sorted" 47 (.builtin "sorted"),
    e P "sum" 48 (.builtin "sum"),
    e P "vars" 49 (.builtin "vars"),
    e P "None" 50 .none,
    e P "Ellipsis" 51 .ellipsis,
    e P "NotImplemented" 52 .notImplemented,
    e P "False" 53 (.bool false),
    e P "True" 54 (.bool true),
    e P "bool" 55 (.type "bool"),
    e P "memoryview" 56 (.type "memoryview"),
    e P "bytearray" 57 (.type "bytearray"),
    e P "bytes" 58 (.type "bytes"),
    e P "classmethod" 59 (.type "classmethod"),
    e P "complex" 60 (.type "complex"),
    e P "dict" 61 (.type "dict"),
    e P "enumerate" 62 (.type "enumerate"),
    e P "filter" 63 (.type "filter"),
    e P "float" 64 (.type "float"),
    e P "frozenset" 65 (.type "frozenset"),
    e P "property" 66 (.type "property"),
    e P "int" 67 (.type "int"),
    e P "list" 68 (.type "list"),
    e P "map" 69 (.type "map"),
    e P "object" 70 (.type "object"),
    e P "range" 71 (.type "range"),
    e P "reversed" 72 (.type "reversed"),
    e P "set" 73 (.type "set"),
    e P "slice" 74 (.type "slice"),
    e P "staticmethod" 75 (.type "staticmethod"),
    e P "str" 76 (.type "str"),
    e P "super" 77 (.type "super"),
    e P "tuple" 78 (.type "tuple"),
    e P "type" 79 (.type "type"),
    e P "zip" 80 (.type "zip"),
    e P "__debug__" 81 (.bool true),
    e P "BaseException" 82 (.type "BaseException"),
    e P "BaseExceptionGroup" 83 (.type "BaseExceptionGroup"),
    e P "Exception" 84 (.type "Exception"),
    e P "GeneratorExit" 85 (.type "GeneratorExit"),
    e P "KeyboardInterrupt" 86 (.type "KeyboardInterrupt"),
    e P "SystemExit" 87 (.type "SystemExit"),
    e P "ArithmeticError" 88 (.type "ArithmeticError"),
    e P "AssertionError" 89 (.type "AssertionError"),
    e P "AttributeError" 90 (.type "AttributeError"),
    e P "BufferError" 91 (.type "BufferError"),
    e P "EOFError" 92 (.type "EOFError"),
    e P "ImportError" 93 (.type "ImportError"),
    e P "LookupError" 94 (.type "LookupError"),
    e P "MemoryError" 95 (.type "MemoryError"),
    e P "NameError" 96 (.type "NameError"),
    e P "OSError" 97 (.type "OSError"),
    e P "ReferenceError" 98 (.type "ReferenceError"),
    e P "RuntimeError" 99 (.type "RuntimeError"),
    e P "StopAsyncIteration" 100 (.type "StopAsyncIteration"),
    e P "StopIteration" 101 (.type "StopIteration"),
    e P "SyntaxError" 102 (.type "SyntaxError"),
    e P "SystemError" 103 (.type "SystemError"),
    e P "TypeError" 104 (.type "TypeError"),
    e P "ValueError" 105 (.type "ValueError"),
    e P "Warning" 106 (.type "Warning"),
    e P "FloatingPointError" 107 (.type "FloatingPointError"),
    e P "OverflowError" 108 (.type "OverflowError"),
    e P "ZeroDivisionError" 109 (.type "ZeroDivisionError"),
    e P "BytesWarning" 110 (.type "BytesWarning"),
    e P "DeprecationWarning" 111 (.type "DeprecationWarning"),
    e P "EncodingWarning" 112 (.type "EncodingWarning"),
    e P "FutureWarning" 113 (.type "FutureWarning"),
    e P "ImportWarning" 114 (.type "ImportWarning"),
    e P "PendingDeprecationWarning" 115 (.type "PendingDeprecationWarning"),
    e P "ResourceWarning" 116 (.type "ResourceWarning"),
    e P "RuntimeWarning" 117 (.type "RuntimeWarning"),
    e P "SyntaxWarning" 118 (.type "SyntaxWarning"),
    e P "UnicodeWarning" 119 (.type "UnicodeWarning"),
    e P "UserWarning" 120 (.type "UserWarning"),
    e P "BlockingIOError" 121 (.type "BlockingIOError"),
    e P "ChildProcessError" 122 (.type "ChildProcessError"),
    e P "ConnectionError" 123 (.type "ConnectionError"),
    e P "FileExistsError" 124 (.type "FileExistsError"),
    e P "FileNotFoundError" 125 (.type "FileNotFoundError"),
    e P "InterruptedError" 126 (.type "InterruptedError"),
    e P "IsADirectoryError" 127 (.type "IsADirectoryError"),
    e P "NotADirectoryError" 128 (.type "NotADirectoryError"),
    e P "PermissionError" 129 (.type "PermissionError"),
    e P "ProcessLookupError" 130 (.type "ProcessLookupError"),
    e P "TimeoutError" 131 (.type "TimeoutError"),
    e P "IndentationError" 132 (.type "IndentationError"),
    e P "_IncompleteInputError" 133 (.type "_IncompleteInputError"),
    e P "IndexError" 134 (.type "IndexError"),
    e P "KeyError" 135 (.type "KeyError"),
    e P "ModuleNotFoundError" 136 (.type "ModuleNotFoundError"),
    e P "NotImplementedError" 137 (.type "NotImplementedError"),
    e P "PythonFinalizationError" 138 (.type "PythonFinalizationError"),
    e P "RecursionError" 139 (.type "RecursionError"),
    e P "UnboundLocalError" 140 (.type "UnboundLocalError"),
    e P "UnicodeError" 141 (.type "UnicodeError"),
    e P "BrokenPipeError" 142 (.type "BrokenPipeError"),
    e P "ConnectionAbortedError" 143 (.type "ConnectionAbortedError"),
    e P "ConnectionRefusedError" 144 (.type "ConnectionRefusedError"),
    e P "ConnectionResetError" 145 (.type "ConnectionResetError"),
    e P "TabError" 146 (.type "TabError"),
    e P "UnicodeDecodeError" 147 (.type "UnicodeDecodeError"),
    e P "UnicodeEncodeError" 148 (.type "UnicodeEncodeError"),
    e P "UnicodeTranslateError" 149 (.type "UnicodeTranslateError"),
    e P "ExceptionGroup" 150 (.type "ExceptionGroup"),
    e P "EnvironmentError" 151 (.type "OSError"),
    e P "IOError" 152 (.type "OSError"),
    e P "open" 153 (.builtin "open"),
    e P "quit" 154 (.builtin "builtins.quit#opaque"),
    e P "exit" 155 (.builtin "builtins.exit#opaque"),
    e P "copyright" 156 (.builtin "builtins.copyright#opaque"),
    e P "credits" 157 (.builtin "builtins.credits#opaque"),
    e P "license" 158 (.builtin "builtins.license#opaque"),
    e P "help" 159 (.builtin "builtins.help#opaque")].toArray 159), slots := [].toArray }
noncomputable def ob2 (P : Params) : Obj :=
  { cls := .none, dict := none, data := (.dict [e P "im\x70ort.loaded._sre" 183 (.bool true),
    e P "class._frozen_importlib.BuiltinImporter" 185 (.ref 14),
    e P "watched.im\x70ort" 206 (.ref 18),
    e P "class._frozen_importlib.ModuleSpec" 216 (.ref 22),
    e P "sys.modules.booked-epoch" 245 (.int 3 0),
    e P "im\x70ort.later-laid._sre" 270 (.bool true),
    e P "watched.library" 272 (.ref 27),
    e P "watched.library-objects" 0 (.str (Str.mk [12].toArray) 0),
    e P "watched.library-deep._sre" 273 (.str (Str.mk [4, 0, 0, 11, 4, 0, 0, 11, 4, 0, 0, 3, 4, 0, 0, 11, 8, 4, 100, 105, 99, 116, 2].toArray) 0)].toArray 9), slots := [].toArray }
noncomputable def ob3 (P : Params) : Obj :=
  { cls := (.type "dict"), dict := none, data := (.dict [e P "__name__" 165 (.str (S "law_pe0246_01") 744),
    e P "__doc__" 166 .none,
    e P "__package__" 167 .none,
    e P "__loader__" 168 (.builtin "__main__.__loader__#opaque"),
    e P "__spec__" 169 .none,
    e P "__annotations__" 170 (.ref 6),
    e P "__builtins__" 171 (.ref 4),
    e P "__file__" 173 (.str (S "/claim/cut.py") 172),
    e P "__cached__" 174 .none,
    e P "_sre" 275 (.ref 12),
    e P "_wall" 288 (.ref 38),
    e P "LPAR" 292 (.int 7 291),
    e P "RPAR" 294 (.int 8 293),
    e P "LSQB" 296 (.int 9 295),
    e P "RSQB" 298 (.int 10 297),
    e P "COLON" 300 (.int 11 299),
    e P "COMMA" 302 (.int 12 301),
    e P "SEMI" 304 (.int 13 303),
    e P "PLUS" 306 (.int 14 305),
    e P "MINUS" 308 (.int 15 307),
    e P "STAR" 310 (.int 16 309),
    e P "SLASH" 312 (.int 17 311),
    e P "VBAR" 314 (.int 18 313),
    e P "AMPER" 316 (.int 19 315),
    e P "LESS" 318 (.int 20 317),
    e P "GREATER" 320 (.int 21 319),
    e P "EQUAL" 322 (.int 22 321),
    e P "DOT" 324 (.int 23 323),
    e P "PERCENT" 326 (.int 24 325),
    e P "LBRACE" 328 (.int 25 327),
    e P "RBRACE" 330 (.int 26 329),
    e P "EQEQUAL" 332 (.int 27 331),
    e P "NOTEQUAL" 334 (.int 28 333),
    e P "LESSEQUAL" 336 (.int 29 335),
    e P "GREATEREQUAL" 338 (.int 30 337),
    e P "TILDE" 340 (.int 31 339),
    e P "CIRCUMFLEX" 342 (.int 32 341),
    e P "LEFTSHIFT" 344 (.int 33 343),
    e P "RIGHTSHIFT" 346 (.int 34 345),
    e P "DOUBLESTAR" 348 (.int 35 347),
    e P "PLUSEQUAL" 350 (.int 36 349),
    e P "MINEQUAL" 352 (.int 37 351),
    e P "STAREQUAL" 354 (.int 38 353),
    e P "SLASHEQUAL" 356 (.int 39 355),
    e P "PERCENTEQUAL" 358 (.int 40 357),
    e P "AMPEREQUAL" 360 (.int 41 359),
    e P "VBAREQUAL" 362 (.int 42 361),
    e P "CIRCUMFLEXEQUAL" 364 (.int 43 363),
    e P "LEFTSHIFTEQUAL" 366 (.int 44 365),
    e P "RIGHTSHIFTEQUAL" 368 (.int 45 367),
    e P "DOUBLESTAREQUAL" 370 (.int 46 369),
    e P "DOUBLESLASH" 372 (.int 47 371),
    e P "DOUBLESLASHEQUAL" 374 (.int 48 373),
    e P "AT" 376 (.int 49 375),
    e P "ATEQUAL" 378 (.int 50 377),
    e P "RARROW" 380 (.int 51 379),
    e P "ELLIPSIS" 382 (.int 52 381),
    e P "COLONEQUAL" 384 (.int 53 383),
    e P "EXCLAMATION" 386 (.int 54 385),
    e P "NT_OFFSET" 388 (.int 256 387),
    e P "EXACT_TOKEN_TYPES" 485 (.ref 39),
    e P "ISTERMINAL" 492 (.ref 48),
    e P "ISNONTERMINAL" 499 (.ref 55),
    e P "_twin_re_1" 529 (.ref 60),
    e P "NL" 531 (.str (S "\n") 530),
    e P "EMPTYSTRING" 533 (.str (S "") 532),
    e P "_ValueFormatter" 647 (.ref 133),
    e P "_Accumulator" 743 (.ref 217),
    e P "_law_symbol" 755 (.ref 228),
    e P "_law_folded" 767 (.ref 235),
    e P "_law_rows" 773 (.ref 240),
    e P "law" 779 (.ref 245)].toArray 72), slots := [].toArray }
noncomputable def ob4 (P : Params) : Obj :=
  { cls := (.type "module"), dict := (some 0), data := .plain, slots := [].toArray }
noncomputable def ob39 (P : Params) : Obj :=
  { cls := (.type "dict"), dict := none, data := (.dict [e P "!" 389 (.int 54 385),
    e P "!=" 391 (.int 28 333),
    e P "%" 393 (.int 24 325),
    e P "%=" 395 (.int 40 357),
    e P "&" 397 (.int 19 315),
    e P "&=" 399 (.int 41 359),
    e P "(" 401 (.int 7 291),
    e P ")" 403 (.int 8 293),
    e P "*" 405 (.int 16 309),
    e P "**" 407 (.int 35 347),
    e P "**=" 409 (.int 46 369),
    e P "*=" 411 (.int 38 353),
    e P "+" 413 (.int 14 305),
    e P "+=" 415 (.int 36 349),
    e P "," 417 (.int 12 301),
    e P "-" 419 (.int 15 307),
    e P "-=" 421 (.int 37 351),
    e P "->" 423 (.int 51 379),
    e P "." 425 (.int 23 323),
    e P "..." 427 (.int 52 381),
    e P "/" 429 (.int 17 311),
    e P "//" 431 (.int 47 371),
    e P "//=" 433 (.int 48 373),
    e P "/=" 435 (.int 39 355),
    e P ":" 437 (.int 11 299),
    e P ":=" 439 (.int 53 383),
    e P ";" 441 (.int 13 303),
    e P "<" 443 (.int 20 317),
    e P "<<" 445 (.int 33 343),
    e P "<<=" 447 (.int 44 365),
    e P "<=" 449 (.int 29 335),
    e P "=" 451 (.int 22 321),
    e P "==" 453 (.int 27 331),
    e P ">" 455 (.int 21 319),
    e P ">=" 457 (.int 30 337),
    e P ">>" 458 (.int 34 345),
    e P ">>=" 459 (.int 45 367),
    e P "@" 460 (.int 49 375),
    e P "@=" 461 (.int 50 377),
    e P "[" 462 (.int 9 295),
    e P "]" 463 (.int 10 297),
    e P "^" 464 (.int 32 341),
    e P "^=" 465 (.int 43 363),
    e P "{" 466 (.int 25 327),
    e P "|" 467 (.int 18 313),
    e P "|=" 468 (.int 42 361),
    e P "}" 469 (.int 26 329),
    e P "~" 470 (.int 31 339)].toArray 48), slots := [].toArray }
noncomputable def ob47 (P : Params) : Obj :=
  { cls := (.type "code"), dict := none, data := (.fields [(.str (S "ISTERMINAL") 486), (.str (S "ISTERMINAL") 487), (.str (S "/claim/cut.py") 488), (.int 56 0), (.int 1 0), (.int 0 0), (.int 0 0), (.int 3 0), (.ref 42), (.bool true), (.int 276 0), (.ref 43), .none, (.ref 44), (.ref 45), (.ref 46), (.int 490 0), (.int 56 0), (.str (S "/claim/cut.py") 491)].toArray), slots := [].toArray }
noncomputable def ob48 (P : Params) : Obj :=
  { cls := (.type "function"), dict := none, data := (fn (stm 53) (S "ISTERMINAL") 3 [] .none .none .none (.str (S "cpy313.token") 289) none (.ref 47) .none 0), slots := [].toArray }
noncomputable def ob54 (P : Params) : Obj :=
  { cls := (.type "code"), dict := none, data := (.fields [(.str (S "ISNONTERMINAL") 493), (.str (S "ISNONTERMINAL") 494), (.str (S "/claim/cut.py") 495), (.int 58 0), (.int 1 0), (.int 0 0), (.int 0 0), (.int 3 0), (.ref 49), (.bool true), (.int 276 0), (.ref 50), .none, (.ref 51), (.ref 52), (.ref 53), (.int 497 0), (.int 58 0), (.str (S "/claim/cut.py") 498)].toArray), slots := [].toArray }
noncomputable def ob55 (P : Params) : Obj :=
  { cls := (.type "function"), dict := none, data := (fn (stm 54) (S "ISNONTERMINAL") 3 [] .none .none .none (.str (S "cpy313.token") 289) none (.ref 54) .none 0), slots := [].toArray }
noncomputable def ob59 (P : Params) : Obj :=
  { cls := (.type "tuple"), dict := none, data := (.seq [(.int 14 0), (.int 4 0), (.int 0 0), (.int 1 0), (.int 4294967295 0), (.int 17 0), (.int 0 0), (.int 24 0), (.int 11 0), (.int 1 0), (.int 4294967295 0), (.int 13 0), (.int 6 0), (.int 16 0), (.int 32 0), (.int 16 0), (.int 9 0), (.int 0 0), (.int 1 0), (.int 17 0), (.int 1 0), (.int 1 0)].toArray 0), slots := [].toArray }
noncomputable def ob60 (P : Params) : Obj :=
  { cls := (.type "re.Pattern"), dict := none, data := (.fields [(.str (S "([ \t]+)") 503), (.int 32 528), (.int 1 0), .none, .none, (.ref 59), (.int 0 0)].toArray), slots := [].toArray }
noncomputable def ob73 (P : Params) : Obj :=
  { cls := (.type "code"), dict := none, data := (.fields [(.str (S "__init__") 546), (.str (S "_ValueFormatter.__init__") 547), (.str (S "/claim/cut.py") 548), (.int 66 0), (.int 5 0), (.int 0 0), (.int 0 0), (.int 3 0), (.ref 68), (.bool true), (.int 276 0), (.ref 69), .none, (.ref 70), (.ref 71), (.ref 72), (.int 554 0), (.int 66 0), (.str (S "/claim/cut.py") 555)].toArray), slots := [].toArray }
noncomputable def ob74 (P : Params) : Obj :=
  { cls := (.type "function"), dict := none, data := (fn (mth 59 0) (S "_ValueFormatter.__init__") 3 [] .none .none .none (.str (S "cpy313.email.header") 500) none (.ref 73) .none 0), slots := [].toArray }
noncomputable def ob80 (P : Params) : Obj :=
  { cls := (.type "code"), dict := none, data := (.fields [(.str (S "_str") 557), (.str (S "_ValueFormatter._str") 558), (.str (S "/claim/cut.py") 559), (.int 74 0), (.int 2 0), (.int 0 0), (.int 0 0), (.int 3 0), (.ref 75), (.bool true), (.int 276 0), (.ref 76), .none, (.ref 77), (.ref 78), (.ref 79), (.int 562 0), (.int 74 0), (.str (S "/claim/cut.py") 563)].toArray), slots := [].toArray }
noncomputable def ob81 (P : Params) : Obj :=
  { cls := (.type "function"), dict := none, data := (fn (mth 59 1) (S "_ValueFormatter._str") 3 [] .none .none .none (.str (S "cpy313.email.header") 500) none (.ref 80) .none 0), slots := [].toArray }
noncomputable def ob94 (P : Params) : Obj :=
  { cls := (.type "code"), dict := none, data := (.fields [(.str (S "newline") 572), (.str (S "_ValueFormatter.newline") 573), (.str (S "/claim/cut.py") 574), (.int 81 0), (.int 1 0), (.int 0 0), (.int 0 0), (.int 3 0), (.ref 89), (.bool true), (.int 276 0), (.ref 90), .none, (.ref 91), (.ref 92), (.ref 93), (.int 577 0), (.int 81 0), (.str (S "/claim/cut.py") 578)].toArray), slots := [].toArray }
noncomputable def ob95 (P : Params) : Obj :=
  { cls := (.type "function"), dict := none, data := (fn (mth 59 3) (S "_ValueFormatter.newline") 3 [] .none .none .none (.str (S "cpy313.email.header") 500) none (.ref 94) .none 0), slots := [].toArray }
noncomputable def ob108 (P : Params) : Obj :=
  { cls := (.type "code"), dict := none, data := (.fields [(.str (S "feed") 587), (.str (S "_ValueFormatter.feed") 588), (.str (S "/claim/cut.py") 589), (.int 95 0), (.int 4 0), (.int 0 0), (.int 0 0), (.int 3 0), (.ref 103), (.bool true), (.int 276 0), (.ref 104), .none, (.ref 105), (.ref 106), (.ref 107), (.int 598 0), (.int 95 0), (.str (S "/claim/cut.py") 599)].toArray), slots := [].toArray }
noncomputable def ob109 (P : Params) : Obj :=
  { cls := (.type "function"), dict := none, data := (fn (mth 59 5) (S "_ValueFormatter.feed") 3 [] .none .none .none (.str (S "cpy313.email.header") 500) none (.ref 108) .none 0), slots := [].toArray }
noncomputable def ob122 (P : Params) : Obj :=
  { cls := (.type "code"), dict := none, data := (.fields [(.str (S "_ascii_split") 608), (.str (S "_ValueFormatter._ascii_split") 609), (.str (S "/claim/cut.py") 610), (.int 120 0), (.int 4 0), (.int 0 0), (.int 0 0), (.int 3 0), (.ref 117), (.bool true), (.int 276 0), (.ref 118), .none, (.ref 119), (.ref 120), (.ref 121), (.int 617 0), (.int 120 0), (.str (S "/claim/cut.py") 618)].toArray), slots := [].toArray }
noncomputable def ob123 (P : Params) : Obj :=
  { cls := (.type "function"), dict := none, data := (fn (mth 59 7) (S "_ValueFormatter._ascii_split") 3 [] .none .none .none (.str (S "cpy313.email.header") 500) none (.ref 122) .none 0), slots := [].toArray }
noncomputable def ob129 (P : Params) : Obj :=
  { cls := (.type "code"), dict := none, data := (.fields [(.str (S "_append_chunk") 620), (.str (S "_ValueFormatter._append_chunk") 621), (.str (S "/claim/cut.py") 622), (.int 129 0), (.int 3 0), (.int 0 0), (.int 0 0), (.int 3 0), (.ref 124), (.bool true), (.int 276 0), (.ref 125), .none, (.ref 126), (.ref 127), (.ref 128), (.int 631 0), (.int 129 0), (.str (S "/claim/cut.py") 632)].toArray), slots := [].toArray }
noncomputable def ob130 (P : Params) : Obj :=
  { cls := (.type "function"), dict := none, data := (fn (mth 59 8) (S "_ValueFormatter._append_chunk") 3 [] .none .none .none (.str (S "cpy313.email.header") 500) none (.ref 129) .none 0), slots := [].toArray }
noncomputable def ob132 (P : Params) : Obj :=
  { cls := (.type "dict"), dict := none, data := (.dict [e P "__module__" 541 (.str (S "cpy313.email.header") 500),
    e P "__firstlineno__" 545 (.int 64 544),
    e P "__init__" 556 (.ref 74),
    e P "_str" 564 (.ref 81),
    e P "__str__" 571 (.ref 88),
    e P "newline" 579 (.ref 95),
    e P "add_transition" 586 (.ref 102),
    e P "feed" 600 (.ref 109),
    e P "_maxlengths" 607 (.ref 116),
    e P "_ascii_split" 619 (.ref 123),
    e P "_append_chunk" 633 (.ref 130),
    e P "__static_attributes__" 640 (.ref 131),
    e P "__dict__" 642 (.ref 134),
    e P "__weakref__" 644 (.ref 135),
    e P "__doc__" 645 .none].toArray 4), slots := [].toArray }
noncomputable def ob133 (P : Params) : Obj :=
  { cls := (.type "type"), dict := none, data := (.cls { name := (S "_ValueFormatter"), bases := [(.type "object")], mro := [(.ref 133), (.type "object")], ns := 132, qualname := (S "_ValueFormatter"), hasDict := true, slotNames := [], subclasses := [], abstract := false, collection := none, hasDel := false }), slots := [none, none, some (.str (S "_ValueFormatter") 534), some (.str (S "_ValueFormatter") 542), some (.builtin "object.__new__"), some (.bool true)].toArray }
noncomputable def ob141 (P : Params) : Obj :=
  { cls := (.type "cell"), dict := none, data := (.cell (some (.ref 217))), slots := [].toArray }
noncomputable def ob146 (P : Params) : Obj :=
  { cls := (.type "tuple"), dict := none, data := (.seq [(.int 0 660)].toArray 0), slots := [].toArray }
noncomputable def ob153 (P : Params) : Obj :=
  { cls := (.type "code"), dict := none, data := (.fields [(.str (S "__init__") 661), (.str (S "_Accumulator.__init__") 662), (.str (S "/claim/cut.py") 663), (.int 157 0), (.int 2 0), (.int 0 0), (.int 0 0), (.int 3 0), (.ref 148), (.bool true), (.int 276 0), (.ref 149), .none, (.ref 150), (.ref 151), (.ref 152), (.int 667 0), (.int 157 0), (.str (S "/claim/cut.py") 668)].toArray), slots := [].toArray }
noncomputable def ob154 (P : Params) : Obj :=
  { cls := (.type "function"), dict := none, data := (fn (mth 60 0) (S "_Accumulator.__init__") 3 [((S "__class__"), 141)] (.ref 146) .none .none (.str (S "cpy313.email.header") 500) none (.ref 153) (.ref 147) 0), slots := [].toArray }
noncomputable def ob160 (P : Params) : Obj :=
  { cls := (.type "code"), dict := none, data := (.fields [(.str (S "push") 670), (.str (S "_Accumulator.push") 671), (.str (S "/claim/cut.py") 672), (.int 161 0), (.int 3 0), (.int 0 0), (.int 0 0), (.int 3 0), (.ref 155), (.bool true), (.int 276 0), (.ref 156), .none, (.ref 157), (.ref 158), (.ref 159), (.int 676 0), (.int 161 0), (.str (S "/claim/cut.py") 677)].toArray), slots := [].toArray }
noncomputable def ob161 (P : Params) : Obj :=
  { cls := (.type "function"), dict := none, data := (fn (mth 60 1) (S "_Accumulator.push") 3 [] .none .none .none (.str (S "cpy313.email.header") 500) none (.ref 160) .none 0), slots := [].toArray }
noncomputable def ob162 (P : Params) : Obj :=
  { cls := (.type "tuple"), dict := none, data := (.seq [(.int 0 679)].toArray 0), slots := [].toArray }
noncomputable def ob168 (P : Params) : Obj :=
  { cls := (.type "code"), dict := none, data := (.fields [(.str (S "pop_from") 680), (.str (S "_Accumulator.pop_from") 681), (.str (S "/claim/cut.py") 682), (.int 164 0), (.int 2 0), (.int 0 0), (.int 0 0), (.int 3 0), (.ref 163), (.bool true), (.int 276 0), (.ref 164), .none, (.ref 165), (.ref 166), (.ref 167), (.int 686 0), (.int 164 0), (.str (S "/claim/cut.py") 687)].toArray), slots := [].toArray }
noncomputable def ob169 (P : Params) : Obj :=
  { cls := (.type "function"), dict := none, data := (fn (mth 60 2) (S "_Accumulator.pop_from") 3 [] (.ref 162) .none .none (.str (S "cpy313.email.header") 500) none (.ref 168) .none 0), slots := [].toArray }
noncomputable def ob176 (P : Params) : Obj :=
  { cls := (.type "code"), dict := none, data := (.fields [(.str (S "pop") 689), (.str (S "_Accumulator.pop") 690), (.str (S "/claim/cut.py") 691), (.int 169 0), (.int 1 0), (.int 0 0), (.int 0 0), (.int 3 0), (.ref 171), (.bool true), (.int 276 0), (.ref 172), .none, (.ref 173), (.ref 174), (.ref 175), (.int 694 0), (.int 169 0), (.str (S "/claim/cut.py") 695)].toArray), slots := [].toArray }
noncomputable def ob177 (P : Params) : Obj :=
  { cls := (.type "function"), dict := none, data := (fn (mth 60 3) (S "_Accumulator.pop") 3 [((S "__class__"), 141)] .none .none .none (.str (S "cpy313.email.header") 500) none (.ref 176) (.ref 170) 0), slots := [].toArray }
noncomputable def ob183 (P : Params) : Obj :=
  { cls := (.type "code"), dict := none, data := (.fields [(.str (S "__len__") 697), (.str (S "_Accumulator.__len__") 698), (.str (S "/claim/cut.py") 699), (.int 174 0), (.int 1 0), (.int 0 0), (.int 0 0), (.int 3 0), (.ref 178), (.bool true), (.int 276 0), (.ref 179), .none, (.ref 180), (.ref 181), (.ref 182), (.int 701 0), (.int 174 0), (.str (S "/claim/cut.py") 702)].toArray), slots := [].toArray }
noncomputable def ob184 (P : Params) : Obj :=
  { cls := (.type "function"), dict := none, data := (fn (mth 60 4) (S "_Accumulator.__len__") 3 [] .none .none .none (.str (S "cpy313.email.header") 500) none (.ref 183) .none 0), slots := [].toArray }
noncomputable def ob190 (P : Params) : Obj :=
  { cls := (.type "code"), dict := none, data := (.fields [(.str (S "__str__") 704), (.str (S "_Accumulator.__str__") 705), (.str (S "/claim/cut.py") 706), (.int 177 0), (.int 1 0), (.int 0 0), (.int 0 0), (.int 3 0), (.ref 185), (.bool true), (.int 276 0), (.ref 186), .none, (.ref 187), (.ref 188), (.ref 189), (.int 708 0), (.int 177 0), (.str (S "/claim/cut.py") 709)].toArray), slots := [].toArray }
noncomputable def ob191 (P : Params) : Obj :=
  { cls := (.type "function"), dict := none, data := (fn (mth 60 5) (S "_Accumulator.__str__") 3 [] .none .none .none (.str (S "cpy313.email.header") 500) none (.ref 190) .none 0), slots := [].toArray }
noncomputable def ob192 (P : Params) : Obj :=
  { cls := (.type "tuple"), dict := none, data := (.seq [.none].toArray 0), slots := [].toArray }
noncomputable def ob198 (P : Params) : Obj :=
  { cls := (.type "code"), dict := none, data := (.fields [(.str (S "reset") 711), (.str (S "_Accumulator.reset") 712), (.str (S "/claim/cut.py") 713), (.int 180 0), (.int 2 0), (.int 0 0), (.int 0 0), (.int 3 0), (.ref 193), (.bool true), (.int 276 0), (.ref 194), .none, (.ref 195), (.ref 196), (.ref 197), (.int 716 0), (.int 180 0), (.str (S "/claim/cut.py") 717)].toArray), slots := [].toArray }
noncomputable def ob199 (P : Params) : Obj :=
  { cls := (.type "function"), dict := none, data := (fn (mth 60 6) (S "_Accumulator.reset") 3 [] (.ref 192) .none .none (.str (S "cpy313.email.header") 500) none (.ref 198) .none 0), slots := [].toArray }
noncomputable def ob205 (P : Params) : Obj :=
  { cls := (.type "code"), dict := none, data := (.fields [(.str (S "is_onlyws") 719), (.str (S "_Accumulator.is_onlyws") 720), (.str (S "/claim/cut.py") 721), (.int 186 0), (.int 1 0), (.int 0 0), (.int 0 0), (.int 3 0), (.ref 200), (.bool true), (.int 276 0), (.ref 201), .none, (.ref 202), (.ref 203), (.ref 204), (.int 723 0), (.int 186 0), (.str (S "/claim/cut.py") 724)].toArray), slots := [].toArray }
noncomputable def ob206 (P : Params) : Obj :=
  { cls := (.type "function"), dict := none, data := (fn (mth 60 7) (S "_Accumulator.is_onlyws") 3 [] .none .none .none (.str (S "cpy313.email.header") 500) none (.ref 205) .none 0), slots := [].toArray }
noncomputable def ob213 (P : Params) : Obj :=
  { cls := (.type "code"), dict := none, data := (.fields [(.str (S "part_count") 726), (.str (S "_Accumulator.part_count") 727), (.str (S "/claim/cut.py") 728), (.int 189 0), (.int 1 0), (.int 0 0), (.int 0 0), (.int 3 0), (.ref 208), (.bool true), (.int 276 0), (.ref 209), .none, (.ref 210), (.ref 211), (.ref 212), (.int 731 0), (.int 189 0), (.str (S "/claim/cut.py") 732)].toArray), slots := [].toArray }
noncomputable def ob214 (P : Params) : Obj :=
  { cls := (.type "function"), dict := none, data := (fn (mth 60 8) (S "_Accumulator.part_count") 3 [((S "__class__"), 141)] .none .none .none (.str (S "cpy313.email.header") 500) none (.ref 213) (.ref 207) 0), slots := [].toArray }
noncomputable def ob216 (P : Params) : Obj :=
  { cls := (.type "dict"), dict := none, data := (.dict [e P "__module__" 655 (.str (S "cpy313.email.header") 500),
    e P "__firstlineno__" 659 (.int 155 658),
    e P "__init__" 669 (.ref 154),
    e P "push" 678 (.ref 161),
    e P "pop_from" 688 (.ref 169),
    e P "pop" 696 (.ref 177),
    e P "__len__" 703 (.ref 184),
    e P "__str__" 710 (.ref 191),
    e P "reset" 718 (.ref 199),
    e P "is_onlyws" 725 (.ref 206),
    e P "part_count" 733 (.ref 214),
    e P "__static_attributes__" 735 (.ref 215),
    e P "__dict__" 738 (.ref 218),
    e P "__weakref__" 740 (.ref 219),
    e P "__doc__" 741 .none].toArray 5), slots := [].toArray }
noncomputable def ob217 (P : Params) : Obj :=
  { cls := (.type "type"), dict := none, data := (.cls { name := (S "_Accumulator"), bases := [(.type "list")], mro := [(.ref 217), (.type "list"), (.type "object")], ns := 216, qualname := (S "_Accumulator"), hasDict := true, slotNames := [], subclasses := [], abstract := false, collection := none, hasDel := false }), slots := [some (.ref 138), none, some (.str (S "_Accumulator") 648), some (.str (S "_Accumulator") 656), some (.builtin "list.__new__"), some (.bool true)].toArray }
noncomputable def ob227 (P : Params) : Obj :=
  { cls := (.type "code"), dict := none, data := (.fields [(.str (S "_law_symbol") 746), (.str (S "_law_symbol") 747), (.str (S "/claim/cut.py") 748), (.int 192 0), (.int 1 0), (.int 0 0), (.int 0 0), (.int 3 0), (.ref 222), (.bool true), (.int 276 0), (.ref 223), .none, (.ref 224), (.ref 225), (.ref 226), (.int 753 0), (.int 192 0), (.str (S "/claim/cut.py") 754)].toArray), slots := [].toArray }
noncomputable def ob228 (P : Params) : Obj :=
  { cls := (.type "function"), dict := none, data := (fn (stm 62) (S "_law_symbol") 3 [] .none .none .none (.str (S "law_pe0246_01") 744) none (.ref 227) .none 0), slots := [].toArray }
noncomputable def ob234 (P : Params) : Obj :=
  { cls := (.type "code"), dict := none, data := (.fields [(.str (S "_law_folded") 756), (.str (S "_law_folded") 757), (.str (S "/claim/cut.py") 758), (.int 197 0), (.int 4 0), (.int 0 0), (.int 0 0), (.int 3 0), (.ref 229), (.bool true), (.int 276 0), (.ref 230), .none, (.ref 231), (.ref 232), (.ref 233), (.int 765 0), (.int 197 0), (.str (S "/claim/cut.py") 766)].toArray), slots := [].toArray }
noncomputable def ob235 (P : Params) : Obj :=
  { cls := (.type "function"), dict := none, data := (fn (stm 63) (S "_law_folded") 3 [] .none .none .none (.str (S "law_pe0246_01") 744) none (.ref 234) .none 0), slots := [].toArray }
noncomputable def ob239 (P : Params) : Obj :=
  { cls := (.type "code"), dict := none, data := (.fields [(.str (S "_law_rows") 768), (.str (S "_law_rows") 769), (.str (S "/claim/cut.py") 770), (.int 203 0), (.int 4 0), (.int 0 0), (.int 0 0), (.int 3 0), (.ref 236), (.bool true), (.int 276 0), (.ref 237), .none, .none, .none, (.ref 238), (.int 771 0), (.int 203 0), (.str (S "/claim/cut.py") 772)].toArray), slots := [].toArray }
noncomputable def ob240 (P : Params) : Obj :=
  { cls := (.type "function"), dict := none, data := (fn (stm 64) (S "_law_rows") 3 [] .none .none .none (.str (S "law_pe0246_01") 744) none (.ref 239) .none 0), slots := [].toArray }
noncomputable def ob244 (P : Params) : Obj :=
  { cls := (.type "code"), dict := none, data := (.fields [(.str (S "law") 774), (.str (S "law") 775), (.str (S "/claim/cut.py") 776), (.int 212 0), (.int 1 0), (.int 0 0), (.int 0 0), (.int 3 0), (.ref 241), (.bool true), (.int 276 0), (.ref 242), .none, .none, .none, (.ref 243), (.int 777 0), (.int 212 0), (.str (S "/claim/cut.py") 778)].toArray), slots := [].toArray }
noncomputable def ob245 (P : Params) : Obj :=
  { cls := (.type "function"), dict := none, data := (fn (stm 65) (S "law") 3 [] .none .none .none (.str (S "law_pe0246_01") 744) none (.ref 244) .none 0), slots := [].toArray }
noncomputable def frag (P : Params) : List (Nat × Obj) :=
  [(0, ob0 P), (2, ob2 P), (3, ob3 P), (4, ob4 P), (39, ob39 P), (47, ob47 P), (48, ob48 P), (54, ob54 P), (55, ob55 P), (59, ob59 P), (60, ob60 P), (73, ob73 P), (74, ob74 P), (80, ob80 P), (81, ob81 P), (94, ob94 P), (95, ob95 P), (108, ob108 P), (109, ob109 P), (122, ob122 P), (123, ob123 P), (129, ob129 P), (130, ob130 P), (132, ob132 P), (133, ob133 P), (141, ob141 P), (146, ob146 P), (153, ob153 P), (154, ob154 P), (160, ob160 P), (161, ob161 P), (162, ob162 P), (168, ob168 P), (169, ob169 P), (176, ob176 P), (177, ob177 P), (183, ob183 P), (184, ob184 P), (190, ob190 P), (191, ob191 P), (192, ob192 P), (198, ob198 P), (199, ob199 P), (205, ob205 P), (206, ob206 P), (213, ob213 P), (214, ob214 P), (216, ob216 P), (217, ob217 P), (227, ob227 P), (228, ob228 P), (234, ob234 P), (235, ob235 P), (239, ob239 P), (240, ob240 P), (244, ob244 P), (245, ob245 P)]
noncomputable def top (P : Params) : KT :=
  (.node (some (ob0 P)) (.node none (.node (some (ob3 P)) (.node none (.node none (.node none (.node none .nil (.node (some (ob191 P)) .nil .nil)) (.node (some (ob95 P)) .nil .nil)) (.node (some (ob47 P)) .nil (.node none .nil (.node (some (ob239 P)) .nil .nil)))) (.node none (.node (some (ob39 P)) (.node none .nil (.node (some (ob199 P)) .nil .nil)) .nil) (.node (some (ob55 P)) .nil (.node none (.node (some (ob183 P)) .nil .nil) .nil)))) (.node none (.node none (.node none .nil (.node none .nil (.node (some (ob227 P)) .nil .nil))) .nil) (.node none (.node none .nil (.node none .nil (.node (some (ob235 P)) .nil .nil))) (.node (some (ob59 P)) .nil (.node (some (ob123 P)) .nil .nil))))) (.node none (.node none (.node none (.node none (.node none (.node (some (ob129 P)) .nil .nil) .nil) (.node none (.node (some (ob161 P)) .nil .nil) .nil)) (.node none (.node (some (ob81 P)) .nil .nil) (.node none (.node (some (ob177 P)) .nil .nil) .nil))) (.node none (.node none (.node (some (ob73 P)) .nil .nil) (.node none (.node (some (ob169 P)) .nil .nil) .nil)) (.node none (.node none (.node (some (ob153 P)) .nil .nil) (.node (some (ob217 P)) .nil .nil)) .nil))) (.node none (.node none (.node none (.node none (.node (some (ob133 P)) .nil .nil) .nil) .nil) (.node none (.node none .nil (.node (some (ob213 P)) .nil .nil)) (.node none .nil (.node (some (ob245 P)) .nil .nil)))) (.node none (.node none (.node none (.node (some (ob141 P)) .nil .nil) (.node (some (ob205 P)) .nil .nil)) (.node (some (ob109 P)) .nil .nil)) .nil)))) (.node (some (ob2 P)) (.node (some (ob4 P)) (.node none (.node none (.node none (.node none .nil (.node (some (ob192 P)) .nil .nil)) (.node none (.node (some (ob160 P)) .nil .nil) .nil)) (.node (some (ob48 P)) (.node (some (ob80 P)) .nil .nil) (.node none (.node (some (ob176 P)) .nil .nil) (.node (some (ob240 P)) .nil .nil)))) (.node none (.node none .nil (.node none (.node (some (ob168 P)) .nil .nil) .nil)) (.node none (.node none .nil (.node (some (ob216 P)) .nil .nil)) (.node none (.node (some (ob184 P)) .nil .nil) .nil)))) (.node none (.node none (.node none (.node none (.node (some (ob132 P)) .nil .nil) .nil) (.node none .nil (.node (some (ob228 P)) .nil .nil))) (.node none .nil (.node none .nil (.node (some (ob244 P)) .nil .nil)))) (.node none (.node none .nil (.node (some (ob108 P)) .nil .nil)) (.node (some (ob60 P)) .nil .nil)))) (.node none (.node none (.node none (.node none (.node none (.node (some (ob130 P)) .nil .nil) .nil) (.node none (.node (some (ob162 P)) .nil .nil) .nil)) (.node none (.node none (.node (some (ob146 P)) .nil .nil) .nil) .nil)) (.node none (.node none (.node (some (ob74 P)) .nil .nil) (.node none .nil (.node (some (ob234 P)) .nil .nil))) (.node none (.node none (.node (some (ob154 P)) .nil .nil) .nil) (.node (some (ob122 P)) .nil .nil)))) (.node none (.node none (.node none (.node none .nil (.node (some (ob198 P)) .nil .nil)) .nil) (.node (some (ob54 P)) (.node none .nil (.node (some (ob214 P)) .nil .nil)) .nil)) (.node none (.node none (.node none .nil (.node (some (ob206 P)) .nil .nil)) .nil) (.node none (.node (some (ob94 P)) .nil .nil) (.node none (.node (some (ob190 P)) .nil .nil) .nil)))))))
end Mine

set_option Elab.async false
namespace Mine
open PySem PySem.W PySem.W.X PyProof.Rows
noncomputable def hdVw : Program := view PW [65]
noncomputable def hdLo : List Str := PW.boundNames.filter (· != "law")
noncomputable def hdXt (s : Shared) : Bool := xlAt hdVw [] s && recOk [] s
noncomputable def tb0 : Obj := { cls := .none, data := .fields #[] }
noncomputable def fragT (P : Params) : Frag := (179, tb0) :: (186, tb0) :: (230, tb0) :: frag P
noncomputable def hdNos : List Nat := [179,186,230,0,2,3,4,39,47,48,54,55,59,60,73,74,80,81,94,95,108,109,122,123,129,130,132,133,141,146,153,154,160,161,162,168,169,176,177,183,184,190,191,192,198,199,205,206,213,214,216,217,227,228,234,235,239,240,244,245]
theorem hdNos_eq (P : Params) : hdNos = (fragT P).map (·.1) := rfl
end Mine

namespace Mine
open PySem PySem.W PySem.W.X
noncomputable def om1 (P : Params) : Obj :=
  { cls := (.type "dict"), dict := none, data := (.dict [e P "builtins" 162 (.ref 4),
    e P "__main__" 163 (.ref 5),
    e P "_sre" 244 (.ref 12)].toArray 3), slots := [].toArray }
noncomputable def om3 (P : Params) : Obj :=
  { cls := (.type "dict"), dict := none, data := (.dict [e P "__name__" 165 (.str (S "cpy313.email.header") 500),
    e P "__doc__" 166 .none,
    e P "__package__" 167 .none,
    e P "__loader__" 168 (.builtin "__main__.__loader__#opaque"),
    e P "__spec__" 169 .none,
    e P "__annotations__" 170 (.ref 6),
    e P "__builtins__" 171 (.ref 4),
    e P "__file__" 173 (.str (S "/claim/cut.py") 172),
    e P "__cached__" 174 .none,
    e P "_sre" 275 (.ref 12),
    e P "_wall" 288 (.ref 38),
    e P "LPAR" 292 (.int 7 291),
    e P "RPAR" 294 (.int 8 293),
    e P "LSQB" 296 (.int 9 295),
    e P "RSQB" 298 (.int 10 297),
    e P "COLON" 300 (.int 11 299),
    e P "COMMA" 302 (.int 12 301),
    e P "SEMI" 304 (.int 13 303),
    e P "PLUS" 306 (.int 14 305),
    e P "MINUS" 308 (.int 15 307),
    e P "STAR" 310 (.int 16 309),
    e P "SLASH" 312 (.int 17 311),
    e P "VBAR" 314 (.int 18 313),
    e P "AMPER" 316 (.int 19 315),
    e P "LESS" 318 (.int 20 317),
    e P "GREATER" 320 (.int 21 319),
    e P "EQUAL" 322 (.int 22 321),
    e P "DOT" 324 (.int 23 323),
    e P "PERCENT" 326 (.int 24 325),
    e P "LBRACE" 328 (.int 25 327),
    e P "RBRACE" 330 (.int 26 329),
    e P "EQEQUAL" 332 (.int 27 331),
    e P "NOTEQUAL" 334 (.int 28 333),
    e P "LESSEQUAL" 336 (.int 29 335),
    e P "GREATEREQUAL" 338 (.int 30 337),
    e P "TILDE" 340 (.int 31 339),
    e P "CIRCUMFLEX" 342 (.int 32 341),
    e P "LEFTSHIFT" 344 (.int 33 343),
    e P "RIGHTSHIFT" 346 (.int 34 345),
    e P "DOUBLESTAR" 348 (.int 35 347),
    e P "PLUSEQUAL" 350 (.int 36 349),
    e P "MINEQUAL" 352 (.int 37 351),
    e P "STAREQUAL" 354 (.int 38 353),
    e P "SLASHEQUAL" 356 (.int 39 355),
    e P "PERCENTEQUAL" 358 (.int 40 357),
    e P "AMPEREQUAL" 360 (.int 41 359),
    e P "VBAREQUAL" 362 (.int 42 361),
    e P "CIRCUMFLEXEQUAL" 364 (.int 43 363),
    e P "LEFTSHIFTEQUAL" 366 (.int 44 365),
    e P "RIGHTSHIFTEQUAL" 368 (.int 45 367),
    e P "DOUBLESTAREQUAL" 370 (.int 46 369),
    e P "DOUBLESLASH" 372 (.int 47 371),
    e P "DOUBLESLASHEQUAL" 374 (.int 48 373),
    e P "AT" 376 (.int 49 375),
    e P "ATEQUAL" 378 (.int 50 377),
    e P "RARROW" 380 (.int 51 379),
    e P "ELLIPSIS" 382 (.int 52 381),
    e P "COLONEQUAL" 384 (.int 53 383),
    e P "EXCLAMATION" 386 (.int 54 385),
    e P "NT_OFFSET" 388 (.int 256 387),
    e P "EXACT_TOKEN_TYPES" 485 (.ref 39),
    e P "ISTERMINAL" 492 (.ref 48),
    e P "ISNONTERMINAL" 499 (.ref 55),
    e P "_twin_re_1" 529 (.ref 60),
    e P "NL" 531 (.str (S "\n") 530),
    e P "EMPTYSTRING" 533 (.str (S "") 532)].toArray 66), slots := [].toArray }
noncomputable def oz3 (P : Params) : Obj :=
  { cls := (.type "dict"), dict := none, data := (.dict [e P "__name__" 165 (.str (S "__main__") 164),
    e P "__doc__" 166 .none,
    e P "__package__" 167 .none,
    e P "__loader__" 168 (.builtin "__main__.__loader__#opaque"),
    e P "__spec__" 169 .none,
    e P "__annotations__" 170 (.ref 6),
    e P "__builtins__" 171 (.ref 4),
    e P "__file__" 173 (.str (S "/claim/cut.py") 172),
    e P "__cached__" 174 .none,
    e P "_sre" 275 (.ref 12)].toArray 10), slots := [].toArray }
noncomputable def om5 (P : Params) : Obj :=
  { cls := (.type "module"), dict := (some 3), data := .plain, slots := [].toArray }
noncomputable def om6 (P : Params) : Obj :=
  { cls := (.type "dict"), dict := none, data := (.dict [].toArray 0), slots := [].toArray }
noncomputable def om7 (P : Params) : Obj :=
  { cls := (.type "tuple"), dict := none, data := (.seq [].toArray 0), slots := [].toArray }
noncomputable def om8 (P : Params) : Obj :=
  { cls := .none, dict := none, data := (.fields [].toArray), slots := [].toArray }
noncomputable def om9 (P : Params) : Obj :=
  { cls := (.type "code"), dict := none, data := (.fields [(.str (S "<module>") 176), (.str (S "<module>") 177), (.str (S "/claim/cut.py") 178), (.int 1 0), (.int 0 0), (.int 0 0), (.int 0 0), (.int 0 0), (.ref 7), (.bool false), (.int 175 0), (.ref 8), .none, .none, .none, .none, (.int 179 0), (.int 1 0), (.str (S "/claim/cut.py") 180)].toArray), slots := [].toArray }
noncomputable def om10 (P : Params) : Obj :=
  { cls := (.type "frame"), dict := none, data := .plain, slots := [some (.ref 9), some (.ref 3), some (.ref 3), none, some (.str (S "__main__") 164), none, some (.ref 0)].toArray }
noncomputable def om11 (P : Params) : Obj :=
  { cls := (.type "dict"), dict := none, data := (.dict [e P "__name__" 247 (.str (S "_sre") 246),
    e P "__doc__" 248 .none,
    e P "__package__" 250 (.str (S "") 249),
    e P "__loader__" 251 (.builtin "off-the-table:_sre.__loader__:shared#opaque"),
    e P "__spec__" 252 (.builtin "off-the-table:_sre.__spec__:shared#opaque"),
    e P "compile" 253 (.builtin "_sre.compile"),
    e P "template" 254 (.builtin "off-the-table:_sre.template:shared#opaque"),
    e P "getcodesize" 255 (.builtin "off-the-table:_sre.getcodesize:shared#opaque"),
    e P "ascii_iscased" 256 (.builtin "off-the-table:_sre.ascii_iscased:shared#opaque"),
    e P "unicode_iscased" 257 (.builtin "off-the-table:_sre.unicode_iscased:shared#opaque"),
    e P "ascii_tolower" 258 (.builtin "off-the-table:_sre.ascii_tolower:shared#opaque"),
    e P "unicode_tolower" 259 (.builtin "off-the-table:_sre.unicode_tolower:shared#opaque"),
    e P "MAGIC" 261 (.int 20230612 260),
    e P "CODESIZE" 263 (.int 4 262),
    e P "MAXREPEAT" 265 (.int 4294967295 264),
    e P "MAXGROUPS" 267 (.int 1073741823 266),
    e P "copyright" 269 (.str (S " SRE 2.2.2 Copyright (c) 1997-2002 by Secret Labs AB ") 268)].toArray 17), slots := [].toArray }
noncomputable def om12 (P : Params) : Obj :=
  { cls := (.type "module"), dict := (some 11), data := .plain, slots := [].toArray }
noncomputable def om13 (P : Params) : Obj :=
  { cls := (.type "dict"), dict := none, data := (.dict [e P "__module__" 189 (.str (S "_frozen_importlib") 186),
    e P "__firstlineno__" 190 (.int 971 187),
    e P "__doc__" 191 (.builtin "_frozen_importlib.BuiltinImporter.__doc__:str#opaque"),
    e P "_ORIGIN" 192 (.str (S "built-in") 188),
    e P "find_spec" 193 (.builtin "_frozen_importlib.BuiltinImporter.find_spec#opaque"),
    e P "create_module" 194 (.builtin "_frozen_importlib.BuiltinImporter.create_module#opaque"),
    e P "exec_module" 195 (.builtin "_frozen_importlib.BuiltinImporter.exec_module#opaque"),
    e P "get_code" 196 (.builtin "_frozen_importlib.BuiltinImporter.get_code#opaque"),
    e P "get_source" 197 (.builtin "_frozen_importlib.BuiltinImporter.get_source#opaque"),
    e P "is_package" 198 (.builtin "_frozen_importlib.BuiltinImporter.is_package#opaque"),
    e P "load_module" 199 (.builtin "_frozen_importlib.BuiltinImporter.load_module#opaque"),
    e P "__static_attributes__" 200 (.ref 15),
    e P "__dict__" 202 (.ref 16),
    e P "__weakref__" 204 (.ref 17)].toArray 14), slots := [].toArray }
noncomputable def om14 (P : Params) : Obj :=
  { cls := (.type "type"), dict := none, data := (.cls { name := (S "BuiltinImporter"), bases := [(.type "object")], mro := [(.ref 14), (.type "object")], ns := 13, qualname := (S "BuiltinImporter"), hasDict := true, slotNames := [], subclasses := [], abstract := false, collection := none, hasDel := false }), slots := [].toArray }
noncomputable def om15 (P : Params) : Obj :=
  { cls := (.type "tuple"), dict := none, data := (.seq [].toArray 0), slots := [].toArray }
noncomputable def om16 (P : Params) : Obj :=
  { cls := (.type "getset_descriptor"), dict := none, data := (.fields [(.str (S "__dict__") 201), (.ref 14), (.builtin "function.__dict__"), (.builtin "function.__dict__#set")].toArray), slots := [].toArray }
noncomputable def om17 (P : Params) : Obj :=
  { cls := (.type "getset_descriptor"), dict := none, data := (.fields [(.str (S "__weakref__") 203), (.ref 14), (.builtin "ExceptionGroup.__weakref__"), .none].toArray), slots := [].toArray }
noncomputable def om18 (P : Params) : Obj :=
  { cls := .none, dict := none, data := (.seq [(.int 13 0), (.str (Str.mk [6, 189, 10, 95, 95, 109, 111, 100, 117, 108, 101, 95, 95, 6, 186, 17, 95, 102, 114, 111, 122, 101, 110, 95, 105, 109, 112, 111, 114, 116, 108, 105, 98, 6, 190, 15, 95, 95, 102, 105, 114, 115, 116, 108, 105, 110, 101, 110, 111, 95, 95, 4, 187, 0, 971, 6, 191, 7, 95, 95, 100, 111, 99, 95, 95, 9, 52, 95, 102, 114, 111, 122, 101, 110, 95, 105, 109, 112, 111, 114, 116, 108, 105, 98, 46, 66, 117, 105, 108, 116, 105, 110, 73, 109, 112, 111, 114, 116, 101, 114, 46, 95, 95, 100, 111, 99, 95, 95, 58, 115, 116, 114, 35, 111, 112, 97, 113, 117, 101, 6, 192, 7, 95, 79, 82, 73, 71, 73, 78, 6, 188, 8, 98, 117, 105, 108, 116, 45, 105, 110, 6, 193, 9, 102, 105, 110, 100, 95, 115, 112, 101, 99, 9, 50, 95, 102, 114, 111, 122, 101, 110, 95, 105, 109, 112, 111, 114, 116, 108, 105, 98, 46, 66, 117, 105, 108, 116, 105, 110, 73, 109, 112, 111, 114, 116, 101, 114, 46, 102, 105, 110, 100, 95, 115, 112, 101, 99, 35, 111, 112, 97, 113, 117, 101, 6, 194, 13, 99, 114, 101, 97, 116, 101, 95, 109, 111, 100, 117, 108, 101, 9, 54, 95, 102, 114, 111, 122, 101, 110, 95, 105, 109, 112, 111, 114, 116, 108, 105, 98, 46, 66, 117, 105, 108, 116, 105, 110, 73, 109, 112, 111, 114, 116, 101, 114, 46, 99, 114, 101, 97, 116, 101, 95, 109, 111, 100, 117, 108, 101, 35, 111, 112, 97, 113, 117, 101, 6, 195, 11, 101, 120, 101, 99, 95, 109, 111, 100, 117, 108, 101, 9, 52, 95, 102, 114, 111, 122, 101, 110, 95, 105, 109, 112, 111, 114, 116, 108, 105, 98, 46, 66, 117, 105, 108, 116, 105, 110, 73, 109, 112, 111, 114, 116, 101, 114, 46, 101, 120, 101, 99, 95, 109, 111, 100, 117, 108, 101, 35, 111, 112, 97, 113, 117, 101, 6, 196, 8, 103, 101, 116, 95, 99, 111, 100, 101, 9, 49, 95, 102, 114, 111, 122, 101, 110, 95, 105, 109, 112, 111, 114, 116, 108, 105, 98, 46, 66, 117, 105, 108, 116, 105, 110, 73, 109, 112, 111, 114, 116, 101, 114, 46, 103, 101, 116, 95, 99, 111, 100, 101, 35, 111, 112, 97, 113, 117, 101, 6, 197, 10, 103, 101, 116, 95, 115, 111, 117, 114, 99, 101, 9, 51, 95, 102, 114, 111, 122, 101, 110, 95, 105, 109, 112, 111, 114, 116, 108, 105, 98, 46, 66, 117, 105, 108, 116, 105, 110, 73, 109, 112, 111, 114, 116, 101, 114, 46, 103, 101, 116, 95, 115, 111, 117, 114, 99, 101, 35, 111, 112, 97, 113, 117, 101, 6, 198, 10, 105, 115, 95, 112, 97, 99, 107, 97, 103, 101, 9, 51, 95, 102, 114, 111, 122, 101, 110, 95, 105, 109, 112, 111, 114, 116, 108, 105, 98, 46, 66, 117, 105, 108, 116, 105, 110, 73, 109, 112, 111, 114, 116, 101, 114, 46, 105, 115, 95, 112, 97, 99, 107, 97, 103, 101, 35, 111, 112, 97, 113, 117, 101, 6, 199, 11, 108, 111, 97, 100, 95, 109, 111, 100, 117, 108, 101, 9, 52, 95, 102, 114, 111, 122, 101, 110, 95, 105, 109, 112, 111, 114, 116, 108, 105, 98, 46, 66, 117, 105, 108, 116, 105, 110, 73, 109, 112, 111, 114, 116, 101, 114, 46, 108, 111, 97, 100, 95, 109, 111, 100, 117, 108, 101, 35, 111, 112, 97, 113, 117, 101, 6, 200, 21, 95, 95, 115, 116, 97, 116, 105, 99, 95, 97, 116, 116, 114, 105, 98, 117, 116, 101, 115, 95, 95, 4, 0, 0, 15, 6, 202, 8, 95, 95, 100, 105, 99, 116, 95, 95, 4, 0, 0, 16, 6, 204, 11, 95, 95, 119, 101, 97, 107, 114, 101, 102, 95, 95, 4, 0, 0, 17].toArray) 0), (.bool true), (.bool true), (.str (S "") 205), (.int 21 0), (.str (Str.mk [6, 227, 10, 95, 95, 109, 111, 100, 117, 108, 101, 95, 95, 6, 217, 17, 95, 102, 114, 111, 122, 101, 110, 95, 105, 109, 112, 111, 114, 116, 108, 105, 98, 6, 228, 15, 95, 95, 102, 105, 114, 115, 116, 108, 105, 110, 101, 110, 111, 95, 95, 4, 218, 0, 562, 6, 229, 7, 95, 95, 100, 111, 99, 95, 95, 9, 47, 95, 102, 114, 111, 122, 101, 110, 95, 105, 109, 112, 111, 114, 116, 108, 105, 98, 46, 77, 111, 100, 117, 108, 101, 83, 112, 101, 99, 46, 95, 95, 100, 111, 99, 95, 95, 58, 115, 116, 114, 35, 111, 112, 97, 113, 117, 101, 6, 230, 8, 95, 95, 105, 110, 105, 116, 95, 95, 9, 44, 95, 102, 114, 111, 122, 101, 110, 95, 105, 109, 112, 111, 114, 116, 108, 105, 98, 46, 77, 111, 100, 117, 108, 101, 83, 112, 101, 99, 46, 95, 95, 105, 110, 105, 116, 95, 95, 35, 111, 112, 97, 113, 117, 101, 6, 231, 8, 95, 95, 114, 101, 112, 114, 95, 95, 9, 44, 95, 102, 114, 111, 122, 101, 110, 95, 105, 109, 112, 111, 114, 116, 108, 105, 98, 46, 77, 111, 100, 117, 108, 101, 83, 112, 101, 99, 46, 95, 95, 114, 101, 112, 114, 95, 95, 35, 111, 112, 97, 113, 117, 101, 6, 232, 6, 95, 95, 101, 113, 95, 95, 9, 42, 95, 102, 114, 111, 122, 101, 110, 95, 105, 109, 112, 111, 114, 116, 108, 105, 98, 46, 77, 111, 100, 117, 108, 101, 83, 112, 101, 99, 46, 95, 95, 101, 113, 95, 95, 35, 111, 112, 97, 113, 117, 101, 6, 233, 6, 99, 97, 99, 104, 101, 100, 9, 42, 95, 102, 114, 111, 122, 101, 110, 95, 105, 109, 112, 111, 114, 116, 108, 105, 98, 46, 77, 111, 100, 117, 108, 101, 83, 112, 101, 99, 46, 99, 97, 99, 104, 101, 100, 35, 111, 112, 97, 113, 117, 101, 6, 234, 6, 112, 97, 114, 101, 110, 116, 9, 42, 95, 102, 114, 111, 122, 101, 110, 95, 105, 109, 112, 111, 114, 116, 108, 105, 98, 46, 77, 111, 100, 117, 108, 101, 83, 112, 101, 99, 46, 112, 97, 114, 101, 110, 116, 35, 111, 112, 97, 113, 117, 101, 6, 235, 12, 104, 97, 115, 95, 108, 111, 99, 97, 116, 105, 111, 110, 9, 48, 95, 102, 114, 111, 122, 101, 110, 95, 105, 109, 112, 111, 114, 116, 108, 105, 98, 46, 77, 111, 100, 117, 108, 101, 83, 112, 101, 99, 46, 104, 97, 115, 95, 108, 111, 99, 97, 116, 105, 111, 110, 35, 111, 112, 97, 113, 117, 101, 6, 236, 21, 95, 95, 115, 116, 97, 116, 105, 99, 95, 97, 116, 116, 114, 105, 98, 117, 116, 101, 115, 95, 95, 4, 0, 0, 23, 6, 238, 8, 95, 95, 100, 105, 99, 116, 95, 95, 4, 0, 0, 24, 6, 240, 11, 95, 95, 119, 101, 97, 107, 114, 101, 102, 95, 95, 4, 0, 0, 25, 6, 241, 8, 95, 95, 104, 97, 115, 104, 95, 95, 0].toArray) 0), (.bool true), (.bool true), (.str (S "") 242)].toArray 1), slots := [].toArray }
noncomputable def om19 (P : Params) : Obj :=
  { cls := (.type "list"), dict := none, data := (.seq [].toArray 0), slots := [].toArray }
noncomputable def om20 (P : Params) : Obj :=
  { cls := (.type "dict"), dict := none, data := (.dict [e P "name" 208 (.str (S "_sre") 207),
    e P "loader" 209 (.ref 14),
    e P "origin" 210 (.str (S "built-in") 184),
    e P "loader_state" 211 .none,
    e P "submodule_search_locations" 212 .none,
    e P "_uninitialized_submodules" 213 (.ref 19),
    e P "_set_fileattr" 214 (.bool false),
    e P "_cached" 215 .none,
    e P "_initializing" 243 (.bool false)].toArray 9), slots := [].toArray }
noncomputable def om21 (P : Params) : Obj :=
  { cls := (.type "dict"), dict := none, data := (.dict [e P "__module__" 227 (.str (S "_frozen_importlib") 217),
    e P "__firstlineno__" 228 (.int 562 218),
    e P "__doc__" 229 (.builtin "_frozen_importlib.ModuleSpec.__doc__:str#opaque"),
    e P "__init__" 230 (.builtin "_frozen_importlib.ModuleSpec.__init__#opaque"),
    e P "__repr__" 231 (.builtin "_frozen_importlib.ModuleSpec.__repr__#opaque"),
    e P "__eq__" 232 (.builtin "_frozen_importlib.ModuleSpec.__eq__#opaque"),
    e P "cached" 233 (.builtin "_frozen_importlib.ModuleSpec.cached#opaque"),
    e P "parent" 234 (.builtin "_frozen_importlib.ModuleSpec.parent#opaque"),
    e P "has_location" 235 (.builtin "_frozen_importlib.ModuleSpec.has_location#opaque"),
    e P "__static_attributes__" 236 (.ref 23),
    e P "__dict__" 238 (.ref 24),
    e P "__weakref__" 240 (.ref 25),
    e P "__hash__" 241 .none].toArray 13), slots := [].toArray }
noncomputable def om22 (P : Params) : Obj :=
  { cls := (.type "type"), dict := none, data := (.cls { name := (S "ModuleSpec"), bases := [(.type "object")], mro := [(.ref 22), (.type "object")], ns := 21, qualname := (S "ModuleSpec"), hasDict := true, slotNames := [], subclasses := [], abstract := false, collection := none, hasDel := false }), slots := [].toArray }
noncomputable def om23 (P : Params) : Obj :=
  { cls := (.type "tuple"), dict := none, data := (.seq [(.str (S "_cached") 219), (.str (S "_set_fileattr") 220), (.str (S "_uninitialized_submodules") 221), (.str (S "loader") 222), (.str (S "loader_state") 223), (.str (S "name") 224), (.str (S "origin") 225), (.str (S "submodule_search_locations") 226)].toArray 0), slots := [].toArray }
noncomputable def om24 (P : Params) : Obj :=
  { cls := (.type "getset_descriptor"), dict := none, data := (.fields [(.str (S "__dict__") 237), (.ref 22), (.builtin "function.__dict__"), (.builtin "function.__dict__#set")].toArray), slots := [].toArray }
noncomputable def om25 (P : Params) : Obj :=
  { cls := (.type "getset_descriptor"), dict := none, data := (.fields [(.str (S "__weakref__") 239), (.ref 22), (.builtin "ExceptionGroup.__weakref__"), .none].toArray), slots := [].toArray }
noncomputable def om26 (P : Params) : Obj :=
  { cls := (.ref 22), dict := (some 20), data := .plain, slots := [].toArray }
noncomputable def om27 (P : Params) : Obj :=
  { cls := .none, dict := none, data := (.seq [(.int 11 0), (.str (Str.mk [6, 247, 8, 95, 95, 110, 97, 109, 101, 95, 95, 6, 246, 4, 95, 115, 114, 101, 6, 248, 7, 95, 95, 100, 111, 99, 95, 95, 0, 6, 250, 11, 95, 95, 112, 97, 99, 107, 97, 103, 101, 95, 95, 6, 249, 0, 6, 251, 10, 95, 95, 108, 111, 97, 100, 101, 114, 95, 95, 4, 0, 0, 14, 6, 252, 8, 95, 95, 115, 112, 101, 99, 95, 95, 4, 0, 0, 26, 6, 253, 7, 99, 111, 109, 112, 105, 108, 101, 9, 12, 95, 115, 114, 101, 46, 99, 111, 109, 112, 105, 108, 101, 6, 254, 8, 116, 101, 109, 112, 108, 97, 116, 101, 9, 13, 95, 115, 114, 101, 46, 116, 101, 109, 112, 108, 97, 116, 101, 6, 255, 11, 103, 101, 116, 99, 111, 100, 101, 115, 105, 122, 101, 9, 16, 95, 115, 114, 101, 46, 103, 101, 116, 99, 111, 100, 101, 115, 105, 122, 101, 6, 256, 13, 97, 115, 99, 105, 105, 95, 105, 115, 99, 97, 115, 101, 100, 9, 18, 95, 115, 114, 101, 46, 97, 115, 99, 105, 105, 95, 105, 115, 99, 97, 115, 101, 100, 6, 257, 15, 117, 110, 105, 99, 111, 100, 101, 95, 105, 115, 99, 97, 115, 101, 100, 9, 20, 95, 115, 114, 101, 46, 117, 110, 105, 99, 111, 100, 101, 95, 105, 115, 99, 97, 115, 101, 100, 6, 258, 13, 97, 115, 99, 105, 105, 95, 116, 111, 108, 111, 119, 101, 114, 9, 18, 95, 115, 114, 101, 46, 97, 115, 99, 105, 105, 95, 116, 111, 108, 111, 119, 101, 114, 6, 259, 15, 117, 110, 105, 99, 111, 100, 101, 95, 116, 111, 108, 111, 119, 101, 114, 9, 20, 95, 115, 114, 101, 46, 117, 110, 105, 99, 111, 100, 101, 95, 116, 111, 108, 111, 119, 101, 114, 6, 261, 5, 77, 65, 71, 73, 67, 4, 260, 0, 20230612, 6, 263, 8, 67, 79, 68, 69, 83, 73, 90, 69, 4, 262, 0, 4, 6, 265, 9, 77, 65, 88, 82, 69, 80, 69, 65, 84, 4, 264, 0, 4294967295, 6, 267, 9, 77, 65, 88, 71, 82, 79, 85, 80, 83, 4, 266, 0, 1073741823, 6, 269, 9, 99, 111, 112, 121, 114, 105, 103, 104, 116, 6, 268, 53, 32, 83, 82, 69, 32, 50, 46, 50, 46, 50, 32, 67, 111, 112, 121, 114, 105, 103, 104, 116, 32, 40, 99, 41, 32, 49, 57, 57, 55, 45, 50, 48, 48, 50, 32, 98, 121, 32, 83, 101, 99, 114, 101, 116, 32, 76, 97, 98, 115, 32, 65, 66, 32].toArray) 0), (.bool true), (.bool false), (.str (S "_sre") 271)].toArray 0), slots := [].toArray }
noncomputable def om28 (P : Params) : Obj :=
  { cls := (.type "tuple"), dict := none, data := (.seq [].toArray 0), slots := [].toArray }
noncomputable def om29 (P : Params) : Obj :=
  { cls := .none, dict := none, data := (.fields [(.int 2 0), (.int 0 0), (.ref 37), (.int 56 0), (.int 0 0), (.ref 47), (.int 58 0), (.int 0 0), (.ref 54)].toArray), slots := [].toArray }
noncomputable def om30 (P : Params) : Obj :=
  { cls := (.type "code"), dict := none, data := (.fields [(.str (S "<module>") 277), (.str (S "<module>") 278), (.str (S "/claim/cut.py") 279), (.int 1 0), (.int 0 0), (.int 0 0), (.int 0 0), (.int 0 0), (.ref 28), (.bool false), (.int 276 0), (.ref 29), .none, .none, .none, .none, (.int 280 0), (.int 1 0), (.str (S "/claim/cut.py") 281)].toArray), slots := [].toArray }
noncomputable def om31 (P : Params) : Obj :=
  { cls := (.type "frame"), dict := none, data := .plain, slots := [some (.ref 30), some (.ref 3), some (.ref 3), none, some (.str (S "__main__") 164), none, some (.ref 0)].toArray }
noncomputable def om32 (P : Params) : Obj :=
  { cls := (.type "tuple"), dict := none, data := (.seq [].toArray 0), slots := [].toArray }
noncomputable def om33 (P : Params) : Obj :=
  { cls := .none, dict := none, data := (.fields [].toArray), slots := [].toArray }
noncomputable def om34 (P : Params) : Obj :=
  { cls := (.type "tuple"), dict := none, data := (.seq [(.str (S "k") 285)].toArray 0), slots := [].toArray }
noncomputable def om35 (P : Params) : Obj :=
  { cls := (.type "tuple"), dict := none, data := (.seq [].toArray 0), slots := [].toArray }
noncomputable def om36 (P : Params) : Obj :=
  { cls := .none, dict := none, data := (fn (stm 1) (S "_wall") 0 [] .none .none .none .none none .none .none 0), slots := [].toArray }
noncomputable def om37 (P : Params) : Obj :=
  { cls := (.type "code"), dict := none, data := (.fields [(.str (S "_wall") 282), (.str (S "_wall") 283), (.str (S "/claim/cut.py") 284), (.int 2 0), (.int 1 0), (.int 0 0), (.int 0 0), (.int 3 0), (.ref 32), (.bool true), (.int 276 0), (.ref 33), .none, (.ref 34), (.ref 35), (.ref 36), (.int 286 0), (.int 2 0), (.str (S "/claim/cut.py") 287)].toArray), slots := [].toArray }
noncomputable def om38 (P : Params) : Obj :=
  { cls := (.type "function"), dict := none, data := (fn (stm 1) (S "_wall") 3 [] .none .none .none (.str (S "__main__") 164) none (.ref 37) .none 0), slots := [].toArray }
noncomputable def om40 (P : Params) : Obj :=
  { cls := (.type "dict"), dict := none, data := (.dict [e P "->" 423 (.int 51 379),
    e P "." 425 (.int 23 323),
    e P "..." 427 (.int 52 381),
    e P "/" 429 (.int 17 311),
    e P "//" 431 (.int 47 371),
    e P "//=" 433 (.int 48 373),
    e P "/=" 435 (.int 39 355),
    e P ":" 437 (.int 11 299),
    e P ":=" 439 (.int 53 383),
    e P ";" 441 (.int 13 303),
    e P "<" 443 (.int 20 317),
    e P "<<" 445 (.int 33 343),
    e P "<<=" 447 (.int 44 365),
    e P "<=" 449 (.int 29 335),
    e P "=" 451 (.int 22 321),
    e P "==" 453 (.int 27 331),
    e P ">" 455 (.int 21 319)].toArray 17), slots := [].toArray }
noncomputable def om41 (P : Params) : Obj :=
  { cls := (.type "dict"), dict := none, data := (.dict [e P ">=" 457 (.int 30 337),
    e P ">>" 458 (.int 34 345),
    e P ">>=" 459 (.int 45 367),
    e P "@" 460 (.int 49 375),
    e P "@=" 461 (.int 50 377),
    e P "[" 462 (.int 9 295),
    e P "]" 463 (.int 10 297),
    e P "^" 464 (.int 32 341),
    e P "^=" 465 (.int 43 363),
    e P "{" 466 (.int 25 327),
    e P "|" 467 (.int 18 313),
    e P "|=" 468 (.int 42 361),
    e P "}" 469 (.int 26 329),
    e P "~" 470 (.int 31 339)].toArray 14), slots := [].toArray }
noncomputable def om42 (P : Params) : Obj :=
  { cls := (.type "tuple"), dict := none, data := (.seq [].toArray 0), slots := [].toArray }
noncomputable def om43 (P : Params) : Obj :=
  { cls := .none, dict := none, data := (.fields [].toArray), slots := [].toArray }
noncomputable def om44 (P : Params) : Obj :=
  { cls := (.type "tuple"), dict := none, data := (.seq [(.str (S "x") 489)].toArray 0), slots := [].toArray }
noncomputable def om45 (P : Params) : Obj :=
  { cls := (.type "tuple"), dict := none, data := (.seq [].toArray 0), slots := [].toArray }
noncomputable def om46 (P : Params) : Obj :=
  { cls := .none, dict := none, data := (fn (stm 53) (S "ISTERMINAL") 0 [] .none .none .none .none none .none .none 0), slots := [].toArray }
noncomputable def om49 (P : Params) : Obj :=
  { cls := (.type "tuple"), dict := none, data := (.seq [].toArray 0), slots := [].toArray }
noncomputable def om50 (P : Params) : Obj :=
  { cls := .none, dict := none, data := (.fields [].toArray), slots := [].toArray }
noncomputable def om51 (P : Params) : Obj :=
  { cls := (.type "tuple"), dict := none, data := (.seq [(.str (S "x") 496)].toArray 0), slots := [].toArray }
noncomputable def om52 (P : Params) : Obj :=
  { cls := (.type "tuple"), dict := none, data := (.seq [].toArray 0), slots := [].toArray }
noncomputable def om53 (P : Params) : Obj :=
  { cls := .none, dict := none, data := (fn (stm 54) (S "ISNONTERMINAL") 0 [] .none .none .none .none none .none .none 0), slots := [].toArray }
noncomputable def om56 (P : Params) : Obj :=
  { cls := (.type "list"), dict := none, data := (.seq [(.int 14 505), (.int 4 506), (.int 0 507), (.int 1 508), (.int 4294967295 509), (.int 17 510), (.int 0 511), (.int 24 512), (.int 11 513), (.int 1 514), (.int 4294967295 515), (.int 13 516), (.int 6 517), (.int 16 518), (.int 32 519), (.int 16 520), (.int 9 521), (.int 0 522), (.int 1 523), (.int 17 524), (.int 1 525), (.int 1 526)].toArray 0), slots := [].toArray }
noncomputable def om57 (P : Params) : Obj :=
  { cls := (.type "dict"), dict := none, data := (.dict [].toArray 0), slots := [].toArray }
noncomputable def om58 (P : Params) : Obj :=
  { cls := (.type "tuple"), dict := none, data := (.seq [.none, .none].toArray 0), slots := [].toArray }
noncomputable def t0 (P : Params) : BT :=
  (.node (ob0 P) (.node (om1 P) (.node (oz3 P) (.node (om7 P) (.node (om15 P) .nil .nil) (.node (om23 P) .nil .nil)) (.node (om11 P) (.node (om19 P) .nil .nil) (.node (om27 P) .nil .nil))) (.node (om5 P) (.node (om9 P) (.node (om17 P) .nil .nil) (.node (om25 P) .nil .nil)) (.node (om13 P) (.node (om21 P) .nil .nil) .nil))) (.node (ob2 P) (.node (ob4 P) (.node (om8 P) (.node (om16 P) .nil .nil) (.node (om24 P) .nil .nil)) (.node (om12 P) (.node (om20 P) .nil .nil) .nil)) (.node (om6 P) (.node (om10 P) (.node (om18 P) .nil .nil) (.node (om26 P) .nil .nil)) (.node (om14 P) (.node (om22 P) .nil .nil) .nil))))
noncomputable def t3 (P : Params) : BT :=
  (.node (ob0 P) (.node (om1 P) (.node (om3 P) (.node (om7 P) (.node (om15 P) (.node (om31 P) .nil .nil) (.node (ob47 P) .nil .nil)) (.node (om23 P) (.node (ob39 P) .nil .nil) (.node (ob55 P) .nil .nil))) (.node (om11 P) (.node (om19 P) (.node (om35 P) .nil .nil) (.node (om51 P) .nil .nil)) (.node (om27 P) (.node (om43 P) .nil .nil) (.node (ob59 P) .nil .nil)))) (.node (om5 P) (.node (om9 P) (.node (om17 P) (.node (om33 P) .nil .nil) (.node (om49 P) .nil .nil)) (.node (om25 P) (.node (om41 P) .nil .nil) (.node (om57 P) .nil .nil))) (.node (om13 P) (.node (om21 P) (.node (om37 P) .nil .nil) (.node (om53 P) .nil .nil)) (.node (om29 P) (.node (om45 P) .nil .nil) .nil)))) (.node (ob2 P) (.node (ob4 P) (.node (om8 P) (.node (om16 P) (.node (om32 P) .nil .nil) (.node (ob48 P) .nil .nil)) (.node (om24 P) (.node (om40 P) .nil .nil) (.node (om56 P) .nil .nil))) (.node (om12 P) (.node (om20 P) (.node (om36 P) .nil .nil) (.node (om52 P) .nil .nil)) (.node (om28 P) (.node (om44 P) .nil .nil) (.node (ob60 P) .nil .nil)))) (.node (om6 P) (.node (om10 P) (.node (om18 P) (.node (om34 P) .nil .nil) (.node (om50 P) .nil .nil)) (.node (om26 P) (.node (om42 P) .nil .nil) (.node (om58 P) .nil .nil))) (.node (om14 P) (.node (om22 P) (.node (om38 P) .nil .nil) (.node (ob54 P) .nil .nil)) (.node (om30 P) (.node (om46 P) .nil .nil) .nil)))))
end Mine

namespace Mine
open PySem PySem.W PySem.W.X PyProof.Rows
noncomputable def topRunT (tb : String → Option Builtin) (p : Program) (w : World) (n₀ : Nat) (ann : Option Value) : Nat → SharedT → Thread → Option SharedT
  | 0, _, _ => none
  | n + 1, s, t => match through t with
    | true => some s
    | false => match stepOk n₀ ann t with
      | false => none
      | true => match stepT (denote tb) p w s t with
        | some (s', t') => topRunT tb p w n₀ ann n s' t'
        | none => none
theorem topRunT_of {tb : String → Option Builtin} {p : Program} {w : World} {n₀ : Nat} {ann : Option Value} : ∀ {n : Nat} {s s' : SharedT} {t : Thread}, topRunT tb p w n₀ ann n s t = some s' → topRun tb p w n₀ ann n s.abs t = some s'.abs
  | 0, _, _, _, h => by cases h
  | n + 1, s, s', t, h => by
    unfold topRunT at h
    unfold topRun
    cases he : through t with
    | true => rw [he] at h; cases h; rfl
    | false =>
      rw [he] at h
      cases hk : stepOk n₀ ann t with
      | false => rw [hk] at h; cases h
      | true =>
        rw [hk] at h
        cases hs : stepT (denote tb) p w s t with
        | none => rw [hs] at h; cases h
        | some r => obtain ⟨s₂, t₂⟩ := r; rw [hs] at h; rw [stepT_spec hs]; exact topRunT_of h
noncomputable def topGoT (tb : String → Option Builtin) (p : Program) (w : World) (n₀ : Nat) (ann : Option Value) : Nat → SharedT → Thread → Option (SharedT × Thread)
  | 0, s, t => some (s, t)
  | n + 1, s, t => match through t with
    | true => none
    | false => match stepOk n₀ ann t with
      | false => none
      | true => match stepT (denote tb) p w s t with
        | some (s', t') => topGoT tb p w n₀ ann n s' t'
        | none => none
theorem topGoT_of {tb : String → Option Builtin} {p : Program} {w : World} {n₀ : Nat} {ann : Option Value} : ∀ {n : Nat} {s s' : SharedT} {t t' : Thread}, topGoT tb p w n₀ ann n s t = some (s', t') → topGo tb p w n₀ ann n s.abs t = some (s'.abs, t')
  | 0, _, _, _, _, h => by cases h; rfl
  | n + 1, s, s', t, t', h => by
    unfold topGoT at h
    unfold topGo
    cases he : through t with
    | true => rw [he] at h; cases h
    | false =>
      rw [he] at h
      cases hk : stepOk n₀ ann t with
      | false => rw [hk] at h; cases h
      | true =>
        rw [hk] at h
        cases hs : stepT (denote tb) p w s t with
        | none => rw [hs] at h; cases h
        | some r => obtain ⟨s₂, t₂⟩ := r; rw [hs] at h; rw [stepT_spec hs]; exact topGoT_of h
noncomputable abbrev nSG : String := "special-get-raises"
noncomputable abbrev aN : Option Value := some (.ref 6)
noncomputable def bd : List Stmt := behindTheImports PW
noncomputable def env0 : Env := { scope := PW.main.scope, locals := mainNs, globals := mainNs, cells := [], code := .ref 30, frame := some 31 }
noncomputable def cd0 : Code := .body bd env0
noncomputable def p0 : Pos := ⟨0, 0, 0, 0⟩
noncomputable def p3 : Pos := ⟨63, 0, 63, 11⟩
noncomputable def z0 (w : World) (os : OsState) : SharedT := ⟨t0 w.params, 28, {}, #[], {}, 276, os⟩
noncomputable def z3 (w : World) (os : OsState) : SharedT := ⟨t3 w.params, 61, {}, #[], {}, 534, os⟩
noncomputable def z1 (w : World) (os : OsState) : SharedT := match topGoT treeTable PW w 28 aN 12 (z0 w os) (topStub PW) with
  | some x => x.1
  | none => z0 w os
set_option maxHeartbeats 0 in
theorem lu0 (w : World) : (fencedOpening treeTable PW w 5700).map (fun s => (s.heap, s.gens, s.drawn, s.toks)) = some (absHeap (t0 w.params) 28 {}, #[], {}, 276) := by kernel_rfl
theorem luS (w : World) : ((absHeap (t0 w.params) 28 {}).isNs mainGlobals && (#[] : Array GenState).size == 0, (absHeap (t0 w.params) 28 {}).objs.size, (absHeap (t0 w.params) 28 {}).nsMap mainGlobals "__annotations__") = (true, 28, aN) := by kernel_rfl
set_option maxHeartbeats 0 in
theorem lu1 (w : World) (os : OsState) : topGoT treeTable PW w 28 aN 12 (z0 w os) (topStub PW) = some (z1 w os, ⟨denote treeTable cd0, cd0, p0, [topFrame p0]⟩) := by kernel_rfl
end Mine

namespace Mine
open PySem PySem.W PySem.W.X PyProof.Rows
noncomputable def lookT (P : Params) (s : Shared) := (staticsOk (importedModules PW.main.body) (absHeap (t0 P) 28 {}) s.heap && namesBound PW s.heap && gensDone s && laidKept (absHeap (t0 P) 28 {}) s.heap, openSeen hdVw hdLo (importedModules PW.main.body) hdXt true s, obsZ hdNos s)
theorem luBlock (w : World) (s : Shared) : segRun treeTable PW w 28 aN 1 1 s (blockOf bd env0 cd0 p0 [topFrame p0]) = some (.next, s, cd0, p0) := by kernel_rfl
theorem luOf {w : World} (h2 : ∀ os, segRunT treeTable PW w 28 aN 1 1614 (z1 w os) (piecesOf (bd.take 58) env0 cd0 p0 [topFrame p0]) = some (.next, z3 w os, cd0, p3))
    (h3 : ∀ os, (topRunT treeTable PW w 28 aN 1140 (z3 w os) (restOf (bd.drop 58) env0 cd0 p3 [topFrame p0])).map (fun s => lookT w.params s.abs) = some (true, openGood hdVw hdLo, valZ fragT 246 780 w)) :
    Option.map (fun s => (openSeen hdVw hdLo (importedModules PW.main.body) hdXt true s, obsZ hdNos s)) (openEnds treeTable PW w 5700) = some (openGood hdVw hdLo, valZ fragT 246 780 w) := by
  obtain ⟨⟨h, gs, d, k, os⟩, e, e'⟩ := Option.map_eq_some_iff.mp (lu0 w)
  obtain ⟨rfl, e'⟩ := Prod.mk.inj e'
  obtain ⟨rfl, e'⟩ := Prod.mk.inj e'
  obtain ⟨rfl, rfl⟩ := Prod.mk.inj e'
  obtain ⟨U, u1, u2⟩ := Option.map_eq_some_iff.mp (h3 os)
  have r3 := piece_app (segRun_of (h2 os)) (topRunT_of u1)
  rw [List.take_append_drop] at r3
  have r6 := topRun_mono (5700 - (12 + (1 + (1614 + 1140)))) _ _ _ _ (go_top (topGoT_of (lu1 w os)) (piece_block (luBlock w _) r3))
  obtain ⟨l1, l4⟩ := Prod.mk.inj u2
  obtain ⟨y1, y2⟩ := Prod.mk.inj (luS w)
  obtain ⟨y2, y3⟩ := Prod.mk.inj y2
  have t : topFrom treeTable PW w 5700 (z0 w os).abs = some U.abs := by
    unfold topFrom
    show (match ((absHeap (t0 w.params) 28 {}).isNs mainGlobals && (#[] : Array GenState).size == 0) with | true => _ | false => _) = _
    rw [y1]
    show Option.bind (topRun treeTable PW w (absHeap (t0 w.params) 28 {}).objs.size ((absHeap (t0 w.params) 28 {}).nsMap mainGlobals "__annotations__") 5700 (z0 w os).abs (topStub PW)) _ = _
    rw [y2, y3, r6]
    show (match staticsOk (importedModules PW.main.body) (absHeap (t0 w.params) 28 {}) U.abs.heap && namesBound PW U.abs.heap && gensDone U.abs && laidKept (absHeap (t0 w.params) 28 {}) U.abs.heap with | true => _ | false => _) = _
    rw [l1]
  unfold openEnds
  rw [e]
  show (topFrom treeTable PW w 5700 (z0 w os).abs).map _ = _
  rw [t]
  exact congrArg some l4
end Mine

namespace Mine
open PySem PySem.W PySem.W.X PyProof.Rows
set_option maxHeartbeats 0 in
theorem lu2F (w : World) (os : OsState) : segRunT treeTable PW (w.withFollow nSG false) 28 aN 1 1614 (z1 (w.withFollow nSG false) os) (piecesOf (bd.take 58) env0 cd0 p0 [topFrame p0]) = some (.next, z3 (w.withFollow nSG false) os, cd0, p3) := by kernel_rfl
set_option maxHeartbeats 0 in
theorem lu2T (w : World) (os : OsState) : segRunT treeTable PW (w.withFollow nSG true) 28 aN 1 1614 (z1 (w.withFollow nSG true) os) (piecesOf (bd.take 58) env0 cd0 p0 [topFrame p0]) = some (.next, z3 (w.withFollow nSG true) os, cd0, p3) := by kernel_rfl
set_option maxHeartbeats 0 in
theorem luF (w : World) (os : OsState) : (topRunT treeTable PW (w.withFollow nSG false) 28 aN 1140 (z3 (w.withFollow nSG false) os) (restOf (bd.drop 58) env0 cd0 p3 [topFrame p0])).map (fun s => lookT (w.withFollow nSG false).params s.abs) = some (true, openGood hdVw hdLo, valZ fragT 246 780 (w.withFollow nSG false)) := by kernel_rfl
set_option maxHeartbeats 0 in
theorem luT (w : World) (os : OsState) : (topRunT treeTable PW (w.withFollow nSG true) 28 aN 1140 (z3 (w.withFollow nSG true) os) (restOf (bd.drop 58) env0 cd0 p3 [topFrame p0])).map (fun s => lookT (w.withFollow nSG true).params s.abs) = some (true, openGood hdVw hdLo, valZ fragT 246 780 (w.withFollow nSG true)) := by kernel_rfl
theorem left : LeftO PW hdVw hdLo hdXt (obsZ hdNos) (valZ fragT 246 780) 5700 := byRow2 nSG (fun w => luOf (lu2F _) (luF w)) (fun w => luOf (lu2T _) (luT w))
end Mine

namespace Mine
open PySem PySem.W PySem.W.X
open Sem (wp)

structure Rm (B : Around) : Prop where
  depth : B.depth < 1000
  units : B.units < 9900
noncomputable def Le (w : World) (B : Around) (c : Code) {α : Type} (m m' : Sem α) : Prop :=
  ∀ (Γ : Ctx) (p : Pos) (Q : α → Pos → Shared → Prop) (E : Value → Pos → Shared → Prop) (s : Shared), Γ.code = c → Γ.In B → wp (model PW w) Γ m' Q E p s → wp (model PW w) Γ m Q E p s
section
variable {w : World} {B : Around} {c : Code} {α β : Type}
theorem Le.refl (m : Sem α) : Le w B c m m := fun _ _ _ _ _ _ _ h => h
theorem Le.of_eq {m m' : Sem α} (e : m = m') : Le w B c m m' := e ▸ Le.refl m
theorem Le.trans {m m' m'' : Sem α} (h : Le w B c m m') (h' : Le w B c m' m'') : Le w B c m m'' := fun Γ p Q E s hc hi x => h Γ p Q E s hc hi (h' Γ p Q E s hc hi x)
theorem Le.bind {m m' : Sem α} {f f' : α → Sem β} (h : Le w B c m m') (hf : ∀ a, Le w B c (f a) (f' a)) : Le w B c (m >>= f) (m' >>= f') := fun Γ p Q E s hc hi x => by
  rw [Sem.wp_bind'] at x ⊢
  exact h Γ p _ _ s hc hi (Sem.wp_mono _ _ _ (fun a p' s' y => hf a Γ p' Q E s' hc hi y) (fun _ _ _ y => y) p s x)
theorem Le.onRaise {m m' : Sem α} {h : Value → Sem Unit} (hm : Le w B c m m') : Le w B c (m.onRaise h) (m'.onRaise h) := fun Γ p Q E s hc hi x => by
  rw [Sem.wp_onRaise] at x ⊢
  exact hm Γ p _ _ s hc hi x
theorem Le.holding {m m' : Sem α} (vs : List Value) (hm : Le w B c m m') : Le w B c (holding vs m) (holding vs m') := fun Γ p Q E s hc hi x => by
  rw [Sem.wp_holding] at x ⊢
  exact hm Γ p _ _ s hc hi x
theorem Le.ite {b : Prop} [Decidable b] {m m' n n' : Sem α} (h : Le w B c m m') (h' : Le w B c n n') : Le w B c (if b then m else n) (if b then m' else n') := by
  split
  · exact h
  · exact h'
theorem Le.unsup {m : Sem α} {u : String} : Le w B c m (.unsupported u) := fun Γ p Q E s hc hi x => by
  rw [Sem.wp_unsupported] at x
  exact x.elim
theorem units_in {Γ : Ctx} {p : Pos} (hi : Γ.In B) : ((((Γ.code, p) :: Γ.below).map (·.1.cUnits)).sum) ≤ B.units := hi.2.2.2.2
theorem Le.room (hB : Rm B) (what : String) : Le w B c (cRoom what) (pure ()) := fun Γ p Q E s hc hi x => by
  unfold cRoom
  rw [Sem.wp_bind']
  show wp _ _ (Sem.stack .pure) _ _ _ _
  rw [Sem.wp_stack, Sem.wp_pure]
  have := units_in (p := p) hi
  have h2 := hB.units
  have : ¬ ((((Γ.code, p) :: Γ.below).map (·.1.cUnits)).sum ≥ cLine) := by
    have : cLine = 9900 := rfl
    omega
  rw [if_neg this]
  exact x
theorem Le.roomFor (hB : Rm B) (what : String) (vs : List Value) : Le w B c (cRoomFor what vs) (pure ()) := by
  unfold cRoomFor
  split
  · exact Le.room hB what
  · exact Le.refl _
noncomputable def enterT : Sem Unit := do
  let limit ← currentRecursionLimit
  match Nat.beq limit 1000 with
  | true => pure ()
  | false => .unsupported "limit"
theorem Le.enter (hB : Rm B) : Le w B c enterFrame enterT := fun Γ p Q E s hc hi x => by
  have z := limit_pass (w := w) (Γ := Γ) (p := p) (Q := fun fin p s => match fin with | .done _ => Q () p s | .again _ => False) (E := E) (B := B) (X := (pure (.done .next) : Sem PySem.Fin)) (s := s) hi hB.depth (by
    unfold enterT at x
    rw [Sem.wp_bind'] at x ⊢
    refine Sem.wp_mono _ _ _ (fun l p' s' y => ?_) (fun _ _ _ y => y) p s x
    cases h : Nat.beq l 1000 with
    | true => rw [h] at y; exact y
    | false => rw [h] at y; exact y)
  rw [Sem.wp_bind'] at z
  exact z
theorem Le.noComps {body : List Stmt} {env : Env} : Le w B (.func body env) comprehensionsAround (pure []) := fun Γ p Q E s hc hi x => by
  unfold comprehensionsAround callersCodes
  rw [Sem.wp_bind', Sem.wp_bind']
  show wp _ _ (Sem.stack .pure) _ _ _ _
  rw [Sem.wp_stack, Sem.wp_pure, hc]
  have e : pastTheWaiting ((.func body env, p) :: Γ.below) = (.func body env, p) :: pastTheWaiting.go false (some (.func body env)) Γ.below := rfl
  rw [e]
  dsimp only
  split
  · rename_i hx
    exact absurd (show (some env.frame != some env.frame) = true from hx) (by simp)
  · exact x
end
end Mine

namespace Mine
open PySem PySem.W PySem.W.X PySem.W.ZFast
open Sem (wp)
noncomputable section
noncomputable abbrev evalT := zw14044960220447912780
noncomputable abbrev execsT := zw12563942051412417395
noncomputable abbrev isTrueT := zw15418851999007992765
theorem evalT_eq : @PySem.eval = evalT := ze14044960220447912780
theorem execsT_eq : @PySem.execs = execsT := ze12563942051412417395
theorem isTrueT_eq : @PySem.isTrue = isTrueT := ze15418851999007992765

noncomputable def genX (elt : Expr) (gens : List Comprehension) (scope : Scope) (pos : Pos) (env : Env) : {t : Sem Value // ∀ w B c (hB : Rm B), Le w B c (eval (.GeneratorExp elt gens scope pos) env) t} := ⟨_, fun w B c hB => by
  rw [arm_eval_GeneratorExp]
  dsimp only
  apply Le.bind
  · exact Le.of_eq (by rw [ze18100340678103251363])
  intro x
  apply Le.bind
  · exact Le.refl _
  intro _
  apply Le.bind
  · exact Le.of_eq (by rw [ze11392484809677674534, ze13045342395687058021])
  intro x
  apply Le.bind
  · exact Le.of_eq (by rw [ze17359229931016689406, ze13045342395687058021, ze5683257298004816981, ze8711993805878244202])
  intro it
  apply Le.bind
  · exact Le.enter hB
  intro _
  apply Le.bind
  · exact Le.of_eq (by rw [ze14069538253670106520])
  intro cl
  apply Le.bind
  · exact Le.of_eq (by rw [ze9492743126541576920])
  intro code
  apply Le.bind
  · exact Le.of_eq (by rw [ze6600643334278800223])
  intro bi
  apply Le.bind
  · exact Le.of_eq (by rw [ze11113344188204177931])
  intro cenv
  exact Le.of_eq (by rw [ze13055414885448386229, ze2426001476595277715])⟩

section
variable {w : World} {B : Around} {c : Code} {α : Type}
noncomputable abbrev holdingT {α : Type} (vs : List Value) (m : Sem α) : Sem α := zw17359229931016689406 vs m
theorem Le.holdT {vs : List Value} {m m' : Sem α} (h : Le w B c m m') : Le w B c (zw17359229931016689406 vs m) m' := fun Γ p Q E s hc hi x => by
  rw [← ze17359229931016689406, Sem.wp_holding]
  exact h Γ p Q E s hc hi x
theorem Le.hold {vs : List Value} {m m' : Sem α} (h : Le w B c m m') : Le w B c (PySem.holding vs m) m' := fun Γ p Q E s hc hi x => by
  rw [Sem.wp_holding]
  exact h Γ p Q E s hc hi x
end
section
variable {w : World} {B : Around} {c : Code} {α β : Type}
theorem Le.bindT {m m' : Sem α} {f f' : α → Sem β} (h : Le w B c m m') (hf : ∀ a, Le w B c (f a) (f' a)) : Le w B c (@Bind.bind Sem (@Monad.toBind Sem zw12456147031677567982) α β m f) (@Bind.bind Sem (@Monad.toBind Sem zw12456147031677567982) α β m' f') := by
  rw [← ze12456147031677567982]
  exact Le.bind h hf
end
noncomputable def richX (op : CmpOp) (a b : Value) : {t : Sem Value // ∀ w B c (hB : Rm B), Le w B c (richCompare op a b) t} := ⟨_, fun w B c hB => by
  rw [ze9423741818375054981]
  delta zw9423741818375054981
  dsimp only
  apply Le.holdT
  apply Le.bindT
  · rw [← ze13383273872528276517]
    exact Le.roomFor hB _ _
  intro _
  exact Le.refl _⟩
noncomputable abbrev compareOpT := zw12886488535604756494
noncomputable def cmpX (op : CmpOp) (a b : Value) : Sem Value := match op with
  | .Eq => (richX .Eq a b).1
  | .NotEq => (richX .NotEq a b).1
  | op => compareOpT op a b
section
variable {w : World} {B : Around} {c : Code} {α : Type}
theorem Le.cmp (hB : Rm B) (op : CmpOp) (a b : Value) : Le w B c (compareOp op a b) (cmpX op a b) := by
  unfold cmpX
  split
  · exact (richX .Eq a b).2 w B c hB
  · exact (richX .NotEq a b).2 w B c hB
  · exact Le.of_eq (by rw [ze12886488535604756494])
theorem Le.operate {vs : List Value} {m m' : Sem Value} (h : Le w B c m m') : Le w B c (operate vs m) (do let r ← m'; zw16427652380498605876 vs [r]; pure r) := by
  unfold PySem.operate
  refine Le.bind (Le.hold h) fun r => Le.bind (Le.of_eq (by rw [ze16427652380498605876])) fun _ => Le.refl _
end

noncomputable def superC (id : Str) (attr : Str) (env : Env) : Bool := id != ("super" : Str) || attr == ("__class__" : Str) || zw4777696345729990297 env "super" != some .globalImplicit || zw4777696345729990297 env "__class__" != some .free
noncomputable def superT (id : Str) (attr : Str) (env : Env) (pos : Pos) : Sem Value :=
  match superC id attr env with
  | true => .unsupported ""
  | false => match env.func with
    | none => .unsupported ""
    | some f => Sem.load f none fun fo => match fo.data with
      | .func fd => match (fd.params.posonlyargs ++ fd.params.args).head? with
        | none => .unsupported ""
        | some first => match env.code with
          | .ref cc => do
            let fl ← zw6609576154772507232 (.ref cc) 2
            match fl with
            | .str file _ => match (PW.main.file == file) with
              | true => match (PW.main.scope.names.lookup ("super" : Str)).isSome with
                | true => .unsupported ""
                | false => do
                  standAt pos
                  let g ← zw8468629109055619292 env "super"
                  let cls ← zw8468629109055619292 env "__class__"
                  let self ← zw8468629109055619292 env first.arg
                  let b ← zw10380811246957099773 cls
                  match (g == .type "super" && b) with
                  | true => zw11478286150595567475 g [cls, self] []
                  | false => .unsupported ""
              | false => .unsupported ""
            | _ => .unsupported ""
          | _ => .unsupported ""
      | _ => .unsupported ""
theorem Le.super {w : World} {B : Around} {body : List Stmt} {env : Env} (id attr : Str) (p0 pos : Pos) (whole : Sem Value) : Le w B (.func body env) (attributeBase (.Call (.Name id p0) [] [] pos) attr env whole) (superT id attr env pos) := by
  unfold superT attributeBase
  rw [← ze6609576154772507232, ← ze8468629109055619292, ← ze10380811246957099773, ← ze11478286150595567475]
  cases h1 : superC id attr env with
  | true => exact Le.unsup
  | false =>
    unfold superC at h1
    rw [← ze4777696345729990297] at h1
    dsimp only
    rw [h1]
    simp only [Bool.false_eq_true, if_false]
    cases hf : env.func with
    | none => exact Le.unsup
    | some f =>
      simp only [hf, Option.isSome_some, if_true, pure_bind]
      have h4 : (env.kindOf "__class__" != some NameKind.free) = false := by
        simp only [Bool.or_eq_false_iff] at h1
        exact h1.2
      simp only [h4, Bool.false_eq_true, if_false]
      intro Γ p Q E s hc hi x
      rw [Sem.wp_load] at x
      obtain ⟨fo, hfo, x⟩ := x
      rw [Sem.wp_bind']
      unfold funcData
      rw [Sem.wp_bind']
      show wp _ _ (Sem.load f none .pure) _ _ p s
      rw [Sem.wp_load]
      refine ⟨fo, hfo, ?_⟩
      rw [Sem.wp_pure]
      split at x
      · rename_i fd hfd
        simp only [hfd]
        rw [Sem.wp_pure']
        split at x
        · rw [Sem.wp_unsupported] at x; exact x.elim
        · rename_i first hfirst
          simp only [hfirst]
          rw [Sem.wp_bind']
          show wp _ _ (Sem.ask .pure) _ _ p s
          rw [Sem.wp_ask, Sem.wp_pure]
          split at x
          · rename_i cc hcc
            simp only [hcc]
            rw [Sem.wp_bind'] at x ⊢
            refine Sem.wp_mono _ _ _ (fun fl p1 s1 y => ?_) (fun _ _ _ y => y) p s x
            split at y
            · rename_i file tok
              split at y
              · rename_i hfile
                split at y
                · rw [Sem.wp_unsupported] at y; exact y.elim
                · rename_i htop
                  have e1 : ((model PW w).prog.main.file == file) = true := hfile
                  have e2 : (List.lookup (Str.ofString "super") (model PW w).prog.main.scope.names).isSome = false := htop
                  simp only [e1, if_true, e2, Bool.false_eq_true, if_false]
                  rw [Sem.wp_bind']
                  show wp _ _ (Sem.rule "super.attribute-form" .pure) _ _ p1 s1
                  rw [Sem.wp_rule, Sem.wp_pure]
                  refine (Le.bind (Le.refl _) fun _ => Le.bind (Le.refl _) fun g => Le.bind (Le.refl _) fun cls => ?_ : Le w B (.func body env) _ _) Γ p1 Q E s1 hc hi y
                  refine Le.trans (Le.bind Le.noComps fun _ => Le.refl _) ?_
                  show Le w B (.func body env) (loadName env first.arg >>= _) _
                  refine Le.bind (Le.refl _) fun self => Le.bind (Le.refl _) fun b => ?_
                  cases hb : (g == Value.type "super" && b) with
                  | true => exact Le.of_eq (if_pos rfl)
                  | false => exact Le.unsup
              · rw [Sem.wp_unsupported] at y; exact y.elim
            · rw [Sem.wp_unsupported] at y; exact y.elim
          · rw [Sem.wp_unsupported] at x; exact x.elim
      · rw [Sem.wp_unsupported] at x; exact x.elim
end
end Mine

namespace Mine
open PySem PySem.W PySem.W.X PySem.W.ZFast
open Sem (wp)
noncomputable section
section
variable {w : World} {B : Around} {c : Code} {α β : Type}
inductive LeL (w : World) (B : Around) (c : Code) : List (Bool × Sem Value) → List (Bool × Sem Value) → Prop
  | nil : LeL w B c [] []
  | cons {b : Bool} {m m' : Sem Value} {l l' : List (Bool × Sem Value)} : Le w B c m m' → LeL w B c l l' → LeL w B c ((b, m) :: l) ((b, m') :: l')
inductive LeT (w : World) (B : Around) (c : Code) : List (Sem Value) → List (Sem Value) → Prop
  | nil : LeT w B c [] []
  | cons {m m' : Sem Value} {l l' : List (Sem Value)} : Le w B c m m' → LeT w B c l l' → LeT w B c (m :: l) (m' :: l')
theorem Le.spliced : ∀ {l l' : List (Bool × Sem Value)}, LeL w B c l l' → Le w B c (PySem.spliced l) (PySem.spliced l')
  | _, _, .nil => Le.refl _
  | _, _, .cons (b := b) h hl => by
    unfold PySem.spliced
    refine Le.bind h fun v => ?_
    cases b with
    | true =>
      simp only [if_true]
      refine Le.bind (Le.refl _) fun t => Le.ite (Le.bind (Le.refl _) fun _ => Le.bind (Le.refl _) fun _ => Le.bind (Le.refl _) fun _ => ?_) ?_
      · exact Le.bind (Le.refl _) fun here => Le.bind (Le.holding _ (Le.spliced hl)) fun _ => Le.refl _
      · exact Le.bind (Le.refl _) fun here => Le.bind (Le.holding _ (Le.spliced hl)) fun _ => Le.refl _
    | false => exact Le.bind (Le.refl _) fun here => Le.bind (Le.holding _ (Le.spliced hl)) fun _ => Le.refl _
theorem LeL.back (pos : Pos) : ∀ {l l' : List (Bool × Sem Value)}, LeL w B c l l' → LeL w B c (backTo pos l) (backTo pos l')
  | _, _, .nil => .nil
  | _, _, .cons (b := b) h hl => by
    refine .cons ?_ (LeL.back pos hl)
    cases b with
    | true => exact Le.bind h fun _ => Le.refl _
    | false => exact h
theorem LeL.any : ∀ {l l' : List (Bool × Sem Value)}, LeL w B c l l' → l.any (·.1) = l'.any (·.1) ∧ l.length = l'.length ∧ l.all (fun x => !x.1) = l'.all (fun x => !x.1)
  | _, _, .nil => ⟨rfl, rfl, rfl⟩
  | _, _, .cons _ hl => by
    have z := LeL.any hl
    simp only [List.any_cons, List.length_cons, List.all_cons, z.1, z.2.1, z.2.2, and_self]
theorem Le.evalArgs {f : Value} {lone : Bool} {l l' : List (Bool × Sem Value)} {kws : List (Option Str × Sem Value)} (h : LeL w B c l l') : Le w B c (PySem.evalArgs f lone l kws) (PySem.evalArgs f lone l' kws) := by
  unfold PySem.evalArgs
  cases h with
  | nil => exact Le.refl _
  | cons h hl =>
    rename_i b m m' l l'
    cases lone with
    | false => exact Le.bind (Le.spliced (.cons h hl)) fun _ => Le.refl _
    | true =>
      cases b with
      | false => exact Le.bind (Le.spliced (.cons h hl)) fun _ => Le.refl _
      | true =>
        cases hl with
        | nil => exact Le.bind h fun _ => Le.refl _
        | cons h2 hl2 => exact Le.bind (Le.spliced (.cons h (.cons h2 hl2))) fun _ => Le.refl _
theorem Le.callWith {pos : Pos} {f : Value} {first : List Value} {l l' : List (Bool × Sem Value)} {kws : List (Option Str × Sem Value)} (h : LeL w B c l l') : Le w B c (PySem.callWith pos f first l kws) (PySem.callWith pos f first l' kws) := by
  unfold PySem.callWith
  rw [h.any.1, h.any.2.1]
  exact Le.bind (Le.holding _ (Le.evalArgs h)) fun _ => Le.refl _
theorem Le.methodCall {o : Expr} {name : Str} {apos pos : Pos} {env : Env} {ov : Value} {n : Nat} {l l' : List (Bool × Sem Value)} {kws : List (Option Str × Sem Value)} (h : LeL w B c l l') :
    Le w B c (PySem.methodCall o name apos pos env ov n l kws) (PySem.methodCall o name apos pos env ov n l' kws) := by
  unfold PySem.methodCall
  have e : ∀ kws, methodCallForm n l kws = methodCallForm n l' kws := fun kws => by unfold methodCallForm; rw [h.any.2.2]
  rw [e]
  exact Le.bind (Le.refl _) fun _ => Le.bind (Le.refl _) fun _ => Le.callWith h
theorem Le.boolOp {pos : Pos} {op : BoolOp} : ∀ {l l' : List (Sem Value)}, LeT w B c l l' → Le w B c (PySem.boolOp pos op l) (PySem.boolOp pos op l')
  | _, _, .nil => Le.refl _
  | _, _, .cons h .nil => h
  | _, _, .cons h (.cons h2 hl) => by
    unfold PySem.boolOp
    refine Le.bind h fun v => Le.bind (Le.refl _) fun _ => Le.bind (Le.refl _) fun t => ?_
    split
    · exact Le.refl _
    · exact Le.refl _
    · exact Le.boolOp (.cons h2 hl)
end

noncomputable def evalX1 (e : Expr) (env : Env) : Sem Value := match e with
  | .GeneratorExp elt gens scope pos => (genX elt gens scope pos env).1
  | e => evalT e env
noncomputable def starX : List Expr → Env → List (Bool × Sem Value)
  | [], _ => []
  | e :: rest, env => match e with
    | .Starred e' _ => (true, evalT e' env) :: starX rest env
    | e => (false, evalX1 e env) :: starX rest env
noncomputable def attrX (o : Expr) (name : Str) (env : Env) : Sem Value := match o with
  | .Call (.Name id _) [] [] pos => superT id name env pos
  | o => zw15487144857313948548 o name env (evalT o env)
noncomputable def cmpE (l : Expr) (op : CmpOp) (r : Expr) (pos : Pos) (env : Env) : Sem Value := do
  let lv ← evalT l env
  let rv ← zw10513115210890433525 op r (evalT r env)
  standAt pos
  let x ← cmpX op lv rv
  zw16427652380498605876 [lv, rv] [x]
  pure x
noncomputable def evalX2 (e : Expr) (env : Env) : Sem Value := match e with
  | .Compare l [op] [r] pos => cmpE l op r pos env
  | e => evalX1 e env
noncomputable def eachX : List Expr → Env → List (Sem Value)
  | [], _ => []
  | e :: rest, env => evalX2 e env :: eachX rest env
noncomputable def evalX (e : Expr) (env : Env) : Sem Value := match e with
  | .Call (.Attribute o name apos) args kws pos => do
    let ov ← attrX o name env
    standAt apos.atName
    zw13401596951702201221 o name apos pos env ov (args.length + kws.length) (zw4897270859577272712 pos (starX args env)) (zw621762911399731506 pos (zw11621922129505618389 kws env))
  | .Call (.Name id p) args kws pos => do
    let f ← evalT (.Name id p) env
    zw8289420714989923916 pos f [] (zw4897270859577272712 pos (starX args env)) (zw621762911399731506 pos (zw11621922129505618389 kws env))
  | .BoolOp op values pos => zw5920589197648130222 pos op (eachX values env)
  | e => evalX2 e env
noncomputable def truthX (e : Expr) (env : Env) : Sem Bool := match e with
  | .Compare l [op] [r] pos => do
    let v ← cmpE l op r pos env
    holdingT [v] (zw15245631507167962100 v)
  | e => isTrueT e env (evalT e env)
noncomputable def allX : BoolOp → List Expr → Env → Sem Bool
  | op, [], _ => pure (op == .And)
  | op, x :: rest, env => do
    let t ← truthX x env
    match op, t with
    | .And, false => pure false
    | .Or, true => pure true
    | _, _ => allX op rest env
noncomputable def isTrueX (e : Expr) (env : Env) : Sem Bool := match e with
  | .BoolOp op values _ => allX op values env
  | e => truthX e env
noncomputable def execX (s : Stmt) (env : Env) : Sem Flow := match s with
  | .Return (some e) pos => do
    standAt pos
    let v ← evalX e env
    pure (.ret v)
  | .Expr e pos => match zw15112477048112897374 env with
    | true => .unsupported ""
    | false => do
      standAt pos
      let b ← zw17223243974762974889 e none pos.line env
      match b with
      | true => .unsupported ""
      | false => do
        let v ← evalX e env
        zw12372662630863984472 e pos v
  | .If test b o pos => do
    standAt pos
    let t ← isTrueX test env
    match t with
    | true => execsT b env
    | false => execsT o env
  | s => execsT [s] env
noncomputable def execsX : List Stmt → Env → Sem Flow
  | [], _ => pure .next
  | s :: rest, env => do
    let f ← execX s env
    match f with
    | .next => execsX rest env
    | f => pure f
noncomputable def funcX (body : List Stmt) (env : Env) : Sem PySem.Fin := do
  point
  let f ← (execsX body env).onRaise (leaving env)
  match f with
  | .ret v => ret v
  | _ => ret .none

section
variable {w : World} {B : Around} {c : Code}
theorem Le.evalX1 (hB : Rm B) (e : Expr) (env : Env) : Le w B c (eval e env) (evalX1 e env) := by
  unfold Mine.evalX1
  split
  · exact (genX _ _ _ _ _).2 w B c hB
  · exact Le.of_eq (by rw [evalT_eq])
theorem LeL.starX (hB : Rm B) : ∀ (l : List Expr) (env : Env), LeL w B c (starEach l env) (starX l env)
  | [], env => .nil
  | e :: rest, env => by
    unfold Mine.starX
    cases e with
    | Starred e' p =>
      rw [arm_starEach_Starred]
      exact .cons (Le.of_eq (by rw [evalT_eq])) (LeL.starX hB rest env)
    | _ => exact .cons (Le.evalX1 hB _ env) (LeL.starX hB rest env)
theorem Le.cmpE (hB : Rm B) (l : Expr) (op : CmpOp) (r : Expr) (pos : Pos) (env : Env) : Le w B c (eval (.Compare l [op] [r] pos) env) (cmpE l op r pos env) := by
  rw [arm_eval_Compare]
  unfold Mine.cmpE
  refine Le.bind (Le.of_eq (by rw [evalT_eq])) fun lv => ?_
  rw [arm_evalEach_cons, arm_evalEach_nil]
  show Le w B c (do let rv ← PySem.holding [lv] (markedBehindIn op r (eval r env)); standAt pos; PySem.operate [lv, rv] (compareOp op lv rv)) _
  refine Le.bind (Le.hold (Le.of_eq (by rw [ze10513115210890433525, evalT_eq]))) fun rv => Le.bind (Le.refl _) fun _ => ?_
  exact Le.operate (Le.cmp hB op lv rv)
theorem Le.evalX2 (hB : Rm B) (e : Expr) (env : Env) : Le w B c (eval e env) (evalX2 e env) := by
  unfold Mine.evalX2
  split
  · exact Le.cmpE hB _ _ _ _ _
  · exact Le.evalX1 hB _ _
theorem LeT.eachX (hB : Rm B) : ∀ (l : List Expr) (env : Env), LeT w B c (evalEach l env) (eachX l env)
  | [], env => .nil
  | e :: rest, env => .cons (Le.evalX2 hB e env) (LeT.eachX hB rest env)
theorem Le.truthX (hB : Rm B) (e : Expr) (env : Env) : Le w B c (isTrue e env (eval e env)) (truthX e env) := by
  unfold Mine.truthX
  split
  · rename_i l op r pos
    rw [arm_isTrue_Compare, arm_evalEach_cons, arm_evalEach_nil]
    unfold Mine.cmpE
    intro Γ p Q E s hc hi x
    simp only [Sem.wp_bind'] at x ⊢
    refine Le.of_eq (w := w) (B := B) (c := c) (by rw [evalT_eq]) Γ p _ _ s hc hi (Sem.wp_mono _ _ _ (fun lv p1 s1 y => ?_) (fun _ _ _ y => y) p s x)
    show wp _ _ (do let rv ← PySem.holding [lv] (markedBehindIn op r (eval r env)); standAt pos; let c ← PySem.operate [lv, rv] (compareOp op lv rv); PySem.holding [c] (truthy c)) _ _ _ _
    refine (Le.bind (Le.hold (Le.of_eq (by rw [ze10513115210890433525, evalT_eq]))) fun rv => Le.bind (Le.refl _) fun _ => Le.bind (Le.operate (Le.cmp hB op lv rv)) fun v => Le.of_eq (by rw [ze15245631507167962100, ze17359229931016689406]) : Le w B c _ (do
      let rv ← zw10513115210890433525 op r (evalT r env)
      standAt pos
      let v ← (do let x ← cmpX op lv rv; zw16427652380498605876 [lv, rv] [x]; pure x)
      holdingT [v] (zw15245631507167962100 v))) Γ p1 _ _ s1 hc hi ?_
    simp only [Sem.wp_bind']
    exact y
  · exact Le.of_eq (by rw [isTrueT_eq, evalT_eq])
theorem Le.allX (hB : Rm B) (op : BoolOp) : ∀ (l : List Expr) (env : Env), Le w B c (allTrue op l env) (allX op l env)
  | [], env => Le.refl _
  | e :: rest, env => by
    rw [arm_allTrue_cons]
    unfold Mine.allX
    refine Le.bind (Le.truthX hB e env) fun t => ?_
    cases op <;> cases t
    · exact Le.refl _
    · exact Le.allX hB _ rest env
    · exact Le.allX hB _ rest env
    · exact Le.refl _
theorem Le.isTrueX (hB : Rm B) (e : Expr) (env : Env) : Le w B c (isTrue e env (eval e env)) (isTrueX e env) := by
  unfold Mine.isTrueX
  split
  · rw [arm_isTrue_BoolOp]; exact Le.allX hB _ _ _
  · exact Le.truthX hB _ _
end
section
variable {w : World} {B : Around} {body : List Stmt} {env : Env}
theorem Le.attrX (o : Expr) (name : Str) : Le w B (.func body env) (attributeBase o name env (eval o env)) (attrX o name env) := by
  unfold Mine.attrX
  split
  · exact Le.super _ _ _ _ _
  · exact Le.of_eq (by rw [ze15487144857313948548, evalT_eq])
theorem Le.evalX (hB : Rm B) (e : Expr) : Le w B (.func body env) (eval e env) (evalX e env) := by
  unfold Mine.evalX
  split
  · rename_i o name apos args kws pos
    rw [arm_eval_Call]
    refine Le.bind (Le.attrX o name) fun ov => Le.bind (Le.refl _) fun _ => ?_
    rw [← ze13401596951702201221, ← ze4897270859577272712, ← ze621762911399731506, ← ze11621922129505618389]
    exact Le.methodCall ((LeL.starX hB args env).back pos)
  · rename_i id p args kws pos
    show Le w B _ (do let f ← eval (.Name id p) env; PySem.callWith pos f [] (backTo pos (starEach args env)) (backToKw pos (keywordEach kws env))) _
    rw [← ze8289420714989923916, ← ze4897270859577272712, ← ze621762911399731506, ← ze11621922129505618389]
    exact Le.bind (Le.of_eq (by rw [evalT_eq])) fun f => Le.callWith ((LeL.starX hB args env).back pos)
  · rename_i op values pos
    rw [arm_eval_BoolOp, ← ze5920589197648130222]
    exact Le.boolOp (LeT.eachX hB values env)
  · exact Le.evalX2 hB _ _
theorem Le.execX (hB : Rm B) (s : Stmt) : Le w B (.func body env) (exec s env) (execX s env) := by
  unfold Mine.execX
  split
  · rw [arm_exec_Return]
    exact Le.bind (Le.refl _) fun _ => Le.bind (Le.evalX hB _) fun _ => Le.refl _
  · rename_i e pos
    rw [arm_exec_Expr, ← ze15112477048112897374]
    cases hi : interactive env with
    | true => exact Le.unsup
    | false =>
      refine Le.bind (Le.refl _) fun _ => ?_
      simp only [Bool.false_eq_true, if_false]
      refine Le.bind (Le.of_eq (by rw [ze17223243974762974889])) fun b => ?_
      cases b with
      | true => exact Le.unsup
      | false => exact Le.bind (Le.evalX hB e) fun v => Le.of_eq (by rw [ze12372662630863984472])
  · rw [arm_exec_If]
    refine Le.bind (Le.refl _) fun _ => Le.bind (Le.isTrueX hB _ _) fun t => ?_
    cases t with
    | true => exact Le.of_eq (by rw [← execsT_eq]; rfl)
    | false => exact Le.of_eq (by rw [← execsT_eq]; rfl)
  · intro Γ p Q E s' hc hi x
    rw [← execsT_eq, arm_execs_cons, Sem.wp_bind'] at x
    refine Sem.wp_mono _ _ _ (fun f p1 s1 y => ?_) (fun _ _ _ y => y) p s' x
    cases f <;> exact y
theorem Le.execsX (hB : Rm B) : ∀ l : List Stmt, Le w B (.func body env) (execs l env) (execsX l env)
  | [] => Le.refl _
  | s :: rest => by
    rw [arm_execs_cons]
    unfold Mine.execsX
    refine Le.bind (Le.execX hB s) fun f => ?_
    cases f
    · exact Le.execsX hB rest
    · exact Le.refl _
    · exact Le.refl _
    · exact Le.refl _
theorem Le.funcX (hB : Rm B) : Le w B (.func body env) (denote table (.func body env)) (funcX body env) := by
  show Le w B _ (do point; match ← (execs body env).onRaise (leaving env) with | .ret v => ret v | _ => ret .none) _
  exact Le.bind (Le.refl _) fun _ => Le.bind (Le.onRaise (Le.execsX hB body)) fun f => Le.refl _
end
end
end Mine

namespace Mine
open PySem PySem.W PySem.W.X


noncomputable def dZ : Code → Sem Fin := PySem.W.ZFast.zw11892475500146522536 PySem.W.ZFast.tableZ
theorem dZ_eq : dZ = denote table := by
  unfold dZ
  rw [← PySem.W.ZFast.ze11892475500146522536, ← PySem.W.ZFast.tableZ_eq]
noncomputable def qZ : Code → Bool := PySem.W.ZFast.zw17772548960776305114
theorem qZ_eq : qZ = Code.quiet := by
  unfold qZ
  rw [← PySem.W.ZFast.ze17772548960776305114]

noncomputable abbrev Segs := List (Nat × Nat)
noncomputable def ad : Segs → Nat → Nat
  | [], _ => 0
  | p :: l, i => match Nat.ble p.1 i with
    | true => p.2 + (i - p.1)
    | false => ad l i
noncomputable def segs0 : Nat → List (Nat × Obj) → Segs → Segs
  | _, [], s => s
  | i, p :: l, s => segs0 (i + 1) l ((i, p.1) :: s)

structure Nx where
  r : Result
  T : BT
  m : Nat
  tk : Nat
  sg : Segs
  q : List (Nat × Obj)
  gz : Nat
  gs : List (Nat × Code)

noncomputable abbrev Post := Result → Nat → List Obj → List (Nat × Obj) → List (Nat × Obj) → Prop
structure Ct where
  lv : Nat
  pre : Code → List (Nat × Obj) → List (Nat × Obj) → List (Nat × Code) → Nat → Post → Prop

structure Cf where
  P : Params
  lim : Nat
  cts : List Ct
  kn : List (Nat × Obj)
  fin : Nx → Prop

noncomputable def nth {α : Type} : List α → Nat → Option α
  | [], _ => none
  | r :: _, 0 => some r
  | _ :: l, k + 1 => nth l k

noncomputable def getL (T : BT) (sg : Segs) : List Nat → Option (List (Nat × Obj))
  | [] => some []
  | i :: l => match T.get i with
    | none => none
    | some o => match o.isFreed with
      | true => none
      | false => match getL T sg l with
        | none => none
        | some r => some ((ad sg i, o) :: r)
noncomputable def getA (T : BT) : List Nat → Option (List Obj)
  | [] => some []
  | i :: l => match T.get i with
    | none => none
    | some o => match getA T l with
      | none => none
      | some r => some (o :: r)
noncomputable def setL : BT → List Nat → List Obj → BT
  | T, i :: l, o :: os => setL (T.set i fun _ => o) l os
  | T, _, _ => T
noncomputable def insL : BT → Nat → List (Nat × Obj) → Option BT
  | T, _, [] => some T
  | T, m, p :: l => match (T.ins m p.2).get m with
    | some _ => insL (T.ins m p.2) (m + 1) l
    | none => none
noncomputable def inL : List Nat → Nat → Bool
  | [], _ => false
  | j :: l, i => match Nat.beq i j with
    | true => true
    | false => inL l i
noncomputable def ndup : List Nat → Bool
  | [] => true
  | i :: l => match inL l i with
    | true => false
    | false => ndup l
noncomputable def slotsOf : Nat → List Nat → Option (List Nat × List Nat)
  | 0, hs => some ([], hs)
  | _ + 1, [] => none
  | k + 1, h :: hs => match slotsOf k hs with
    | none => none
    | some p => some (h :: p.1, p.2)

noncomputable abbrev PTy := Code → K → Sem Fin → BT → Nat → Nat → Segs → List (Nat × Obj) → Nat → List (Nat × Code) → List Nat → List Nat → List Nat → Prop

noncomputable def useC (G : Cf) (κd : Nat) (c' : Code) (go : Nx → List Nat → Prop) (T : BT) (m tk : Nat) (sg : Segs) (q : List (Nat × Obj)) (gs : List (Nat × Code)) (hs ak ek : List Nat) : Prop :=
  match hs with
  | [] => False
  | k :: hs1 => match nth G.cts k with
    | none => False
    | some C => match Nat.ble (κd + C.lv) G.lim with
      | false => False
      | true => match hs1 with
        | [] => False
        | j :: hs2 => match slotsOf j hs2 with
          | none => False
          | some sh => match ndup sh.1 with
            | false => False
            | true => match getL T sg sh.1 with
              | none => False
              | some L => ak = ek ∧ C.pre c' L q gs tk fun r tk' L' ns nq => ∀ n' gz' : Nat, match insL (setL T sh.1 L') m ns with
                | some T' => go ⟨r, T', m + ns.length, tk', (m + ns.length, n' + 247) :: segs0 m ns sg, nq ++ q, gz', []⟩ sh.2
                | none => False

noncomputable def backP (ih : PTy) (G : Cf) (κ : K) (x : Nx) (hs : List Nat) : Prop := match κ with
  | .base => G.fin x
  | .ret c _ k κ' => ih c κ' (k x.r) x.T x.m x.tk x.sg x.q x.gz x.gs hs [] []

noncomputable def ldP (P : Params) (kn : List (Nat × Obj)) (T : BT) (sg : Segs) (q : List (Nat × Obj)) (a : Nat) (hs ak ek : List Nat) (k : Obj → List Nat → List Nat → List Nat → Prop) : Prop := match hs with
  | [] => False
  | h :: hs1 => match h with
    | 0 => match (top P).get a with
      | none => False
      | some o => k o hs1 ak ek
    | 1 => match hs1 with
      | [] => False
      | j :: hs2 => match nth kn j with
        | some p => k p.2 hs2 (a :: ak) (p.1 :: ek)
        | none => match nth q (j - 100) with
          | none => False
          | some p => k p.2 hs2 (a :: ak) (p.1 :: ek)
    | i + 2 => match T.get i with
      | none => False
      | some o => match o.isFreed with
        | true => False
        | false => k o hs1 (a :: ak) (ad sg i :: ek)
noncomputable def upP (T : BT) (sg : Segs) (a : Nat) (f : Obj → Obj) (hs ak ek : List Nat) (k : BT → List Nat → List Nat → List Nat → Prop) : Prop := match hs with
  | [] => False
  | h :: hs1 => match h with
    | i + 2 => match T.get i with
      | none => False
      | some o => match (o.isFreed || (f o).isFreed) with
        | true => False
        | false => k (T.set i f) hs1 (a :: ak) (ad sg i :: ek)
    | _ => False
noncomputable def pyC (G : Cf) (n : Nat) (c : Code) (k : Sem Fin → Prop) : Prop := match Nat.ble n G.lim with
  | false => False
  | true => match c with
    | .call f args => match f with
      | .ref a => match (top G.P).get a with
        | none => False
        | some o => match pyT a o args with
          | none => False
          | some t => k t
      | _ => False
    | _ => False
noncomputable def fuC (G : Cf) (κ : K) (c : Code) (k : Sem Fin → Prop) : Prop := match Nat.ble (dK κ) G.lim with
  | false => False
  | true => match c with
    | .func body env => k (funcX body env)
    | _ => False

noncomputable def stepP (G : Cf) (ih : PTy) (c : Code) (κ : K) (t : Sem Fin) : BT → Nat → Nat → Segs → List (Nat × Obj) → Nat → List (Nat × Code) → List Nat → List Nat → List Nat → Prop :=
  match t with
  | .pure fin => match fin with
    | .done f => match κ with
      | .base => fun T m tk sg q gz gs _ ak ek => ak = ek ∧ G.fin ⟨.ok f, T, m, tk, sg, q, gz, gs⟩
      | .ret c' _ k κ' => ih c' κ' (k (.ok f))
    | .again c' => match qZ c' with
      | false => fun _ _ _ _ _ _ _ _ _ _ => False
      | true => fun T m tk sg q gz gs hs ak ek => match hs with
          | [] => False
          | h :: hs' => match h with
            | 0 => ih c' κ (dZ c') T m tk sg q gz gs hs' ak ek
            | 1 => fuC G κ c' fun t' => ih c' κ t' T m tk sg q gz gs hs' ak ek
            | _ + 2 => match hdK none κ with
              | some _ => False
              | none => useC G (dK κ) c' (backP ih G κ) T m tk sg q gs hs' ak ek
  | .raise e => match κ with
      | .base => fun T m tk sg q gz gs _ ak ek => ak = ek ∧ G.fin ⟨.error e, T, m, tk, sg, q, gz, gs⟩
      | .ret c' _ k κ' => ih c' κ' (k (.error e))
  | .rule _ k => ih c κ (k ())
  | .at _ k => ih c κ (k ())
  | .point _ k => ih c κ (k ())
  | .ask k => ih c κ (k ⟨PW, G.P⟩)
  | .fresh k => fun T m tk => ih c κ (k tk) T m (tk + 1)
  | .handled own k => match own with
    | false => ih c κ (k (hdK none κ))
    | true => fun _ _ _ _ _ _ _ _ _ _ => False
  | .alloc o k => fun T m tk sg q gz gs hs ak ek => match o.isFreed with
    | true => False
    | false => match (T.ins m o).get m with
      | some _ => ih c κ (k (ad sg m)) (T.ins m o) (m + 1) tk sg q gz gs hs ak ek
      | none => False
  | .load a _ k => fun T m tk sg q gz gs hs ak ek => ldP G.P G.kn T sg q a hs ak ek fun o => ih c κ (k o) T m tk sg q gz gs
  | .loadIfAlive a k => fun T m tk sg q gz gs hs ak ek => ldP G.P G.kn T sg q a hs ak ek fun o => ih c κ (k (some o)) T m tk sg q gz gs
  | .update a _ f k => fun T m tk sg q gz gs hs ak ek => upP T sg a f hs ak ek fun T' => ih c κ (k ()) T' m tk sg q gz gs
  | .call c' hd _ _ k => match noC c with
    | false => fun _ _ _ _ _ _ _ _ _ _ => False
    | true => fun T m tk sg q gz gs hs ak ek => match hs with
      | [] => False
      | h :: hs' => match h with
        | 0 => match okMark hd with
          | true => ih c' (.ret c hd k κ) (dZ c') T m tk sg q gz gs hs' ak ek
          | false => False
        | 1 => match okMark hd with
          | true => pyC G (dK κ) c' fun t' => ih c' (.ret c hd k κ) t' T m tk sg q gz gs hs' ak ek
          | false => False
        | _ + 2 => match hd with
          | some _ => False
          | none => match hdK none κ with
            | some _ => False
            | none => useC G (wC c + dK κ) c' (fun x hs'' => ih c κ (k x.r) x.T x.m x.tk x.sg x.q x.gz x.gs hs'' [] []) T m tk sg q gs hs' ak ek
  | .stack k => fun T m tk sg q gz gs hs ak ek => ak = ek ∧ ∀ (p : Pos) (rest : List (Code × Pos)), ih c κ (k ((c, p) :: rest)) T m tk sg q gz gs hs [] []
  | .newGen c' k => fun T m tk sg q gz gs hs ak ek => ih c κ (k gz) T m tk sg q (gz + 1) ((gz, c') :: gs) hs ak ek
  | _ => fun _ _ _ _ _ _ _ _ _ _ => False

noncomputable def start (P : Params) (c : Code) : Sem Fin := match c with
  | .call f args => match f with
    | .ref a => match (top P).get a with
      | some o => match pyT a o args with
        | some t => t
        | none => dZ c
      | none => dZ c
    | _ => dZ c
  | _ => dZ c
noncomputable def upto : Nat → List Nat
  | 0 => []
  | n + 1 => upto n ++ [n]
noncomputable def takeL {α : Type} : Nat → List α → List α
  | 0, _ => []
  | _, [] => []
  | n + 1, a :: l => a :: takeL n l
noncomputable def finC (k : Nat) (sl sq : List Nat) (j : Nat) (post : Post) (x : Nx) : Prop := match ndup (upto k ++ (sl ++ sq)) with
  | false => False
  | true => match getA x.T (upto k) with
    | none => False
    | some L' => match getL x.T x.sg sl with
      | none => False
      | some ns => match getL x.T x.sg sq with
        | none => False
        | some nq => post x.r x.tk L' ns (nq ++ takeL j x.q)

noncomputable def runP (G : Cf) : Nat → PTy
  | 0 => fun _ _ _ _ _ _ _ _ _ _ _ _ _ => False
  | n + 1 => stepP G (runP G n)
end Mine

namespace Mine
open PySem PySem.W PySem.W.X

noncomputable def TabOk (lc : Nat → Int × Int) (h : Heap) (a : Nat) : Prop :=
  h.get? a = some { cls := .none, data := .fields #[] } ∨ ∃ c, h.get? a = some { cls := .none, data := .fields #[rawInt (lc a).1, rawInt (lc a).2, c] }
structure Vol where
  vs : List Nat
  lc : Nat → Int × Int
noncomputable def Inv (V : Vol) (h : Heap) (g : Array GenState) : Prop := (∀ a ∈ V.vs, TabOk V.lc h a) ∧ PyProof.Rows.AllBare g
theorem Inv.same {V : Vol} {h h' : Heap} {g : Array GenState} (I : Inv V h g) (e : ∀ a ∈ V.vs, ∀ o, h.get? a = some o → h'.get? a = some o) : Inv V h' g :=
  ⟨fun a ha => (I.1 a ha).elim (fun x => .inl (e a ha _ x)) fun ⟨c, x⟩ => .inr ⟨c, e a ha _ x⟩, I.2⟩
theorem Inv.lt {V : Vol} {h : Heap} {g : Array GenState} (I : Inv V h g) {a : Nat} (ha : a ∈ V.vs) : a < h.objs.size :=
  (I.1 a ha).elim (fun x => Heap.lt_size x) fun ⟨c, x⟩ => Heap.lt_size x

structure Room (k : Nat) (A : Around) : Prop where
  depth : A.depth + k ≤ 990
  units : A.units + 5 * k ≤ 9700
  hd : A.handled = none

structure Rel (P : Params) (V : Vol) (hB h : Heap) (g : Array GenState) (fx : List Nat) (qB : List (Nat × Obj)) (T : BT) (m : Nat) (sg : Segs) (q : List (Nat × Obj)) (gz : Nat) (gs : List (Nat × Code)) : Prop where
  hd : ∃ i b l, sg = (i, b) :: l ∧ i ≤ m ∧ h.objs.size = b + (m - i)
  inj : ∀ i j, i < m → j < m → ad sg i = ad sg j → i = j
  lt : ∀ i, i < m → ad sg i < h.objs.size
  fixed : ∀ i, i < fx.length → ad sg i = fx[i]?.getD 0
  fxm : fx.length ≤ m
  own : ∀ i o, T.get i = some o → i < m ∧ (o.isFreed = false → h.get? (ad sg i) = some o)
  top : ∀ a o, (Mine.top P).get a = some o → h.get? a = some o
  apart : ∀ i, i < m → (Mine.top P).get (ad sg i) = none ∧ ad sg i ∉ V.vs
  gh : ∀ p ∈ q, h.get? p.1 = some p.2 ∧ (∀ i, i < m → p.1 ≠ ad sg i) ∧ p.1 ∉ V.vs
  gn : ∀ p ∈ q, p ∈ qB ∨ hB.objs.size ≤ p.1
  qs : ∀ p ∈ qB, p ∈ q
  new : ∀ i, i < m → ad sg i ∈ fx ∨ hB.objs.size ≤ ad sg i
  keep : ∀ b o, hB.get? b = some o → b ∉ V.vs → b ∉ fx → h.get? b = some o
  blt : hB.objs.size ≤ h.objs.size
  big : 247 ≤ hB.objs.size
  tv : ∀ a o, (Mine.top P).get a = some o → a ∉ V.vs
  inv : Inv V h g
  gsz : g.size = gz
  gsk : ∀ p ∈ gs, g[p.1]? = some (.fresh p.2)

section
variable {P : Params} {V : Vol} {hB h : Heap} {g : Array GenState} {fx : List Nat} {qB : List (Nat × Obj)} {T : BT} {m : Nat} {sg : Segs} {q : List (Nat × Obj)} {gz : Nat} {gs : List (Nat × Code)}
theorem Rel.next (D : Rel P V hB h g fx qB T m sg q gz gs) : ad sg m = h.objs.size := by
  obtain ⟨i, b, l, e, hi, hs⟩ := D.hd
  subst e
  have : Nat.ble i m = true := Nat.ble_eq_true_of_le hi
  simp only [ad, this]
  exact hs.symm
theorem Rel.tlt (D : Rel P V hB h g fx qB T m sg q gz gs) {a : Nat} {o : Obj} (e : (Mine.top P).get a = some o) : a < h.objs.size := Heap.lt_size (D.top a o e)
theorem Rel.alloc (D : Rel P V hB h g fx qB T m sg q gz gs) {o : Obj} (hf : o.isFreed = false) (hg : ((T.ins m o).get m).isSome = true) : Rel P V hB (h.push o) g fx qB (T.ins m o) (m + 1) sg q gz gs := by
  have en := D.next
  have up : ∀ b o', h.get? b = some o' → (h.push o).get? b = some o' := fun b o' e => Heap.get?_push_of_some _ e
  have lt' : ∀ i, i < m + 1 → i < m ∨ i = m := fun i hi => by omega
  refine ⟨?_, ?_, ?_, D.fixed, Nat.le_succ_of_le D.fxm, ?_, fun a o' e => up a o' (D.top a o' e), ?_, ?_, D.gn, D.qs, ?_, fun b o' e x y => up b o' (D.keep b o' e x y), ?_, D.big, D.tv, D.inv.same fun a _ o e => up a o e, D.gsz, D.gsk⟩
  · obtain ⟨i, b, l, e, hi, hs⟩ := D.hd
    exact ⟨i, b, l, e, Nat.le_succ_of_le hi, by rw [Heap.size_push, hs]; omega⟩
  · intro i j hi hj e
    rcases lt' i hi with hi | rfl
    · rcases lt' j hj with hj | rfl
      · exact D.inj i j hi hj e
      · have := D.lt i hi; rw [e, en] at this; omega
    · rcases lt' j hj with hj | rfl
      · have := D.lt j hj; rw [← e, en] at this; omega
      · rfl
  · intro i hi
    rw [Heap.size_push]
    rcases lt' i hi with hi | rfl
    · have := D.lt i hi; omega
    · rw [en]; omega
  · intro i o' e
    rw [BT.get_ins o T m hg] at e
    by_cases hi : i = m
    · subst hi
      rw [if_pos rfl] at e
      cases e
      exact ⟨Nat.lt_succ_self _, fun _ => by rw [en]; exact Heap.get?_push_size _ hf⟩
    · rw [if_neg hi] at e
      have z := D.own i o' e
      exact ⟨Nat.lt_succ_of_lt z.1, fun hl => up _ _ (z.2 hl)⟩
  · intro i hi
    rcases lt' i hi with hi | rfl
    · exact D.apart i hi
    · rw [en]
      refine ⟨?_, fun x => Nat.lt_irrefl _ (D.inv.lt x)⟩
      cases e : (Mine.top P).get h.objs.size with
      | none => rfl
      | some o' => exact absurd (D.tlt e) (Nat.lt_irrefl _)
  · intro p hp
    have y := D.gh p hp
    refine ⟨up _ _ y.1, fun i hi => ?_, y.2.2⟩
    rcases lt' i hi with hi | rfl
    · exact y.2.1 i hi
    · rw [en]; exact Nat.ne_of_lt (Heap.lt_size y.1)
  · intro i hi
    rcases lt' i hi with hi | rfl
    · exact D.new i hi
    · rw [en]; exact .inr D.blt
  · rw [Heap.size_push]; exact Nat.le_succ_of_le D.blt
theorem Rel.update (D : Rel P V hB h g fx qB T m sg q gz gs) {i : Nat} {o : Obj} {f : Obj → Obj} (e : T.get i = some o) (ho : o.isFreed = false) (hf : (f o).isFreed = false) : Rel P V hB (h.update (ad sg i) f) g fx qB (T.set i f) m sg q gz gs := by
  have z := D.own i o e
  have hs : Heap.SameBut (ad sg i) h (h.update (ad sg i) f) := Heap.SameBut.update ..
  have up : ∀ b, b ≠ ad sg i → ∀ o', h.get? b = some o' → (h.update (ad sg i) f).get? b = some o' := fun b h1 o' e' => (hs.2 b h1).trans e'
  refine ⟨?_, D.inj, fun j hj => by rw [hs.1]; exact D.lt j hj, D.fixed, D.fxm, fun j o' e' => ?_, fun a o' e' => up a (fun x => ?_) _ (D.top a o' e'), D.apart, fun p hp => let y := D.gh p hp; ⟨up _ (y.2.1 i z.1) _ y.1, y.2⟩, D.gn, D.qs, D.new,
    fun b o' e' x y => up b (fun w => ?_) _ (D.keep b o' e' x y), by rw [hs.1]; exact D.blt, D.big, D.tv, D.inv.same fun a ha o' e' => up a (fun x => (D.apart i z.1).2 (x ▸ ha)) _ e', D.gsz, D.gsk⟩
  · obtain ⟨i0, b, l, e', hi, hz⟩ := D.hd
    exact ⟨i0, b, l, e', hi, by rw [hs.1]; exact hz⟩
  · rw [BT.get_set] at e'
    by_cases hj : j = i
    · subst hj
      rw [if_pos rfl, e] at e'
      cases e'
      refine ⟨z.1, fun _ => ?_⟩
      first | exact Heap.get?_update_self f (z.2 ho) hf | exact Heap.get?_update_self _ (z.2 ho) hf
    · rw [if_neg hj] at e'
      have y := D.own j o' e'
      exact ⟨y.1, fun hl => (hs.2 _ fun q => hj (D.inj j i y.1 z.1 q)).trans (y.2 hl)⟩
  · have := (D.apart i z.1).1
    rw [← x, e'] at this
    cases this
  · rcases D.new i z.1 with hn | hn
    · exact y (w ▸ hn)
    · rw [← w] at hn
      exact absurd (Heap.lt_size e') (Nat.not_lt.mpr hn)
theorem Rel.newGen (D : Rel P V hB h g fx qB T m sg q gz gs) (c : Code) : Rel P V hB h (g.push (.fresh c)) fx qB T m sg q (gz + 1) ((gz, c) :: gs) := by
  refine ⟨D.hd, D.inj, D.lt, D.fixed, D.fxm, D.own, D.top, D.apart, D.gh, D.gn, D.qs, D.new, D.keep, D.blt, D.big, D.tv, ⟨D.inv.1, D.inv.2.push rfl⟩, by rw [Array.size_push, D.gsz], fun p hp => ?_⟩
  rcases List.mem_cons.mp hp with rfl | hp
  · show (g.push _)[gz]? = _
    rw [← D.gsz]
    exact Array.getElem?_push_size ..
  · have y := D.gsk p hp
    rw [Array.getElem?_push]
    have : p.1 < g.size := by
      rcases Nat.lt_or_ge p.1 g.size with h' | h'
      · exact h'
      · rw [Array.getElem?_eq_none h'] at y; cases y
    rw [if_neg (Nat.ne_of_lt this)]
    exact y
end

structure Have (P : Params) (V : Vol) (h : Heap) (g : Array GenState) (L q : List (Nat × Obj)) (gs : List (Nat × Code)) : Prop where
  top : ∀ a o, (Mine.top P).get a = some o → h.get? a = some o
  has : ∀ p ∈ L, h.get? p.1 = some p.2
  nodup : (L.map Prod.fst).Nodup
  apart : ∀ p ∈ L, (Mine.top P).get p.1 = none ∧ p.1 ∉ V.vs
  gh : ∀ p ∈ q, h.get? p.1 = some p.2 ∧ p.1 ∉ L.map Prod.fst ∧ p.1 ∉ V.vs
  tv : ∀ a o, (Mine.top P).get a = some o → a ∉ V.vs
  big : 247 ≤ h.objs.size
  inv : Inv V h g
  gsk : ∀ p ∈ gs, g[p.1]? = some (.fresh p.2)
structure After (V : Vol) (h : Heap) (L q : List (Nat × Obj)) (h' : Heap) (g' : Array GenState) (L' : List Obj) (ns nq : List (Nat × Obj)) : Prop where
  len : L'.length = L.length
  here : ∀ (i : Nat) (p : Nat × Obj) (o : Obj), L[i]? = some p → L'[i]? = some o → o.isFreed = false → h'.get? p.1 = some o
  new : ∀ p ∈ ns, h'.get? p.1 = some p.2 ∧ h.objs.size ≤ p.1
  newd : (ns.map Prod.fst).Nodup
  kn : ∀ p ∈ nq, p ∈ q ∨ (h'.get? p.1 = some p.2 ∧ h.objs.size ≤ p.1 ∧ p.1 ∉ ns.map Prod.fst)
  keep : ∀ b o, h.get? b = some o → b ∉ V.vs → b ∉ L.map Prod.fst → h'.get? b = some o
  size : h.objs.size ≤ h'.objs.size
  inv : Inv V h' g'
noncomputable def CtOk (w : World) (V : Vol) (C : Ct) : Prop :=
  ∀ c L q gs tk post, C.pre c L q gs tk post → ∀ A Q h g d os, Room C.lv A → Have w.params V h g L q gs →
    (∀ r tk' L' ns nq h' g', post r tk' L' ns nq → After V h L q h' g' L' ns nq → Q r ⟨h', g', d, tk', os⟩) → codeAny (model PW w) A c Q ⟨h, g, d, tk, os⟩

theorem inL_iff : ∀ {l : List Nat} {i : Nat}, inL l i = true ↔ i ∈ l
  | [], i => by simp [inL]
  | j :: l, i => by
    unfold inL
    rw [BT.beq_eq]
    by_cases h : i = j
    · subst h; simp
    · simp only [List.mem_cons, h, false_or]; exact inL_iff
theorem ndup_nodup : ∀ {l : List Nat}, ndup l = true → l.Nodup
  | [], _ => List.nodup_nil
  | i :: l, h => by
    unfold ndup at h
    cases e : inL l i with
    | true => rw [e] at h; cases h
    | false =>
      rw [e] at h
      refine List.nodup_cons.mpr ⟨fun x => ?_, ndup_nodup h⟩
      rw [inL_iff.mpr x] at e
      cases e
theorem getL_spec {T : BT} {sg : Segs} : ∀ {sl : List Nat} {L : List (Nat × Obj)}, getL T sg sl = some L → L.length = sl.length ∧ L.map Prod.fst = sl.map (ad sg) ∧ ∀ (k : Nat) (p : Nat × Obj), L[k]? = some p → ∃ i, sl[k]? = some i ∧ p.1 = ad sg i ∧ T.get i = some p.2 ∧ p.2.isFreed = false
  | [], L, h => by
    cases h
    exact ⟨rfl, rfl, fun k p e => by cases e⟩
  | i :: sl, L, h => by
    unfold getL at h
    split at h
    · cases h
    · rename_i o eo
      split at h
      · cases h
      · rename_i hl
        split at h
        · cases h
        · rename_i r er
          cases h
          have z := getL_spec er
          refine ⟨by simp [z.1], by simp [z.2.1], fun k p e => ?_⟩
          cases k with
          | zero => cases e; exact ⟨i, rfl, rfl, eo, hl⟩
          | succ k => exact z.2.2 k p e
theorem getA_spec {T : BT} : ∀ {sl : List Nat} {L : List Obj}, getA T sl = some L → L.length = sl.length ∧ ∀ (k : Nat) (o : Obj), L[k]? = some o → ∃ i, sl[k]? = some i ∧ T.get i = some o
  | [], L, h => by
    cases h
    exact ⟨rfl, fun k p e => by cases e⟩
  | i :: sl, L, h => by
    unfold getA at h
    split at h
    · cases h
    · rename_i o eo
      split at h
      · cases h
      · rename_i r er
        cases h
        have z := getA_spec er
        refine ⟨by simp [z.1], fun k p e => ?_⟩
        cases k with
        | zero => cases e; exact ⟨i, rfl, eo⟩
        | succ k => exact z.2 k p e
theorem getL_mem {T : BT} {sg : Segs} {sl : List Nat} {L : List (Nat × Obj)} (h : getL T sg sl = some L) {p : Nat × Obj} (hp : p ∈ L) : ∃ i ∈ sl, p.1 = ad sg i ∧ T.get i = some p.2 ∧ p.2.isFreed = false := by
  obtain ⟨k, hk⟩ := List.getElem?_of_mem hp
  obtain ⟨i, h1, h2, h3⟩ := (getL_spec h).2.2 k p hk
  exact ⟨i, List.mem_of_getElem? h1, h2, h3⟩
theorem setL_get : ∀ (sl : List Nat) (os : List Obj) (T : BT) (i : Nat) (o : Obj), (setL T sl os).get i = some o → os.length = sl.length →
    (∃ k : Nat, sl[k]? = some i ∧ os[k]? = some o) ∨ (i ∉ sl ∧ T.get i = some o)
  | [], [], T, i, o, e, _ => .inr ⟨by simp, e⟩
  | [], _ :: _, _, _, _, _, hl => by cases hl
  | _ :: _, [], _, _, _, _, hl => by cases hl
  | s :: sl, x :: os, T, i, o, e, hl => by
    rcases setL_get sl os (T.set s fun _ => x) i o e (by simpa using hl) with ⟨k, h1, h2⟩ | ⟨h1, h2⟩
    · exact .inl ⟨k + 1, h1, h2⟩
    · rw [BT.get_set] at h2
      by_cases hi : i = s
      · subst hi
        rw [if_pos rfl] at h2
        refine .inl ⟨0, rfl, ?_⟩
        cases q : T.get i with
        | none => rw [q] at h2; cases h2
        | some y => rw [q] at h2; exact h2
      · rw [if_neg hi] at h2
        exact .inr ⟨fun x => (List.mem_cons.mp x).elim hi h1, h2⟩
theorem insL_get : ∀ (ns : List (Nat × Obj)) (T T' : BT) (m i : Nat) (o : Obj), insL T m ns = some T' → T'.get i = some o →
    (∃ (k : Nat) (p : Nat × Obj), ns[k]? = some p ∧ i = m + k ∧ o = p.2) ∨ T.get i = some o
  | [], T, T', m, i, o, e, h => by cases e; exact .inr h
  | p :: l, T, T', m, i, o, e, h => by
    unfold insL at e
    split at e
    · rename_i x ex
      rcases insL_get l _ _ _ i o e h with ⟨k, p', h1, h2, h3⟩ | h1
      · exact .inl ⟨k + 1, p', h1, by omega, h3⟩
      · rw [BT.get_ins p.2 T m (by rw [ex]; rfl)] at h1
        by_cases hi : i = m
        · rw [if_pos hi] at h1; cases h1; exact .inl ⟨0, p, rfl, hi, rfl⟩
        · rw [if_neg hi] at h1; exact .inr h1
    · cases e
theorem segs0_old : ∀ (L : List (Nat × Obj)) (m : Nat) (sg : Segs) (i : Nat), i < m → ad (segs0 m L sg) i = ad sg i
  | [], _, _, _, _ => rfl
  | p :: l, m, sg, i, h => by
    unfold segs0
    rw [segs0_old l (m + 1) _ i (by omega)]
    have : Nat.ble m i = false := by
      cases e : Nat.ble m i with
      | false => rfl
      | true => have := Nat.le_of_ble_eq_true e; omega
    simp only [ad, this]
theorem segs0_new : ∀ (L : List (Nat × Obj)) (m : Nat) (sg : Segs) (k : Nat) (p : Nat × Obj), L[k]? = some p → ad (segs0 m L sg) (m + k) = p.1
  | [], _, _, _, _, e => by cases e
  | x :: l, m, sg, 0, p, e => by
    cases e
    unfold segs0
    rw [segs0_old l (m + 1) _ (m + 0) (by omega)]
    have : Nat.ble m (m + 0) = true := Nat.ble_eq_true_of_le (Nat.le_refl _)
    simp only [ad, this]
    omega
  | x :: l, m, sg, k + 1, p, e => by
    unfold segs0
    have := segs0_new l (m + 1) ((m, x.1) :: sg) k p e
    rw [← this]
    congr 1
    omega
theorem ad_cons_lt {b n : Nat} {sg : Segs} {i : Nat} (h : i < n) : ad ((n, b) :: sg) i = ad sg i := by
  have : Nat.ble n i = false := by
    cases e : Nat.ble n i with
    | false => rfl
    | true => have := Nat.le_of_ble_eq_true e; omega
  simp only [ad, this]
end Mine

namespace Mine
open PySem PySem.W PySem.W.X

section
variable {P : Params} {V : Vol} {hB h : Heap} {g : Array GenState} {fx : List Nat} {qB : List (Nat × Obj)} {T : BT} {m : Nat} {sg : Segs} {q : List (Nat × Obj)} {gz : Nat} {gs : List (Nat × Code)}
theorem Rel.have (D : Rel P V hB h g fx qB T m sg q gz gs) {sl : List Nat} (hn : ndup sl = true) {L : List (Nat × Obj)} (hL : getL T sg sl = some L) : Have P V h g L q gs := by
  have z := getL_spec hL
  refine ⟨D.top, fun p hp => ?_, ?_, fun p hp => ?_, fun p hp => ?_, D.tv, Nat.le_trans D.big D.blt, D.inv, D.gsk⟩
  · obtain ⟨i, _, e1, e2, hl⟩ := getL_mem hL hp
    rw [e1]
    exact (D.own i _ e2).2 hl
  · rw [z.2.1]
    have hb : ∀ i ∈ sl, i < m := fun i hi => by
      obtain ⟨k, hk⟩ := List.getElem?_of_mem hi
      have hlt : k < L.length := by rw [z.1]; exact (List.getElem?_eq_some_iff.mp hk).1
      obtain ⟨i', h1, h2, h3, _⟩ := z.2.2 k L[k] (List.getElem?_eq_getElem hlt)
      rw [hk] at h1
      cases h1
      exact (D.own i _ h3).1
    exact List.pairwise_map.mpr ((ndup_nodup hn).imp_of_mem fun {a b} ha hb' hne e => hne (D.inj a b (hb a ha) (hb b hb') e))
  · obtain ⟨i, _, e1, e2, _⟩ := getL_mem hL hp
    rw [e1]
    exact D.apart i (D.own i _ e2).1
  · have y := D.gh p hp
    refine ⟨y.1, fun x => ?_, y.2.2⟩
    rw [z.2.1] at x
    obtain ⟨i, hi, e⟩ := List.mem_map.mp x
    obtain ⟨k, hk⟩ := List.getElem?_of_mem hi
    have hlt : k < L.length := by rw [z.1]; exact (List.getElem?_eq_some_iff.mp hk).1
    obtain ⟨i', h1, h2, h3, _⟩ := z.2.2 k L[k] (List.getElem?_eq_getElem hlt)
    rw [hk] at h1
    cases h1
    exact y.2.1 i (D.own i _ h3).1 e.symm
theorem Rel.jump (D : Rel P V hB h g fx qB T m sg q gz gs) {sl : List Nat} (hn : ndup sl = true) {L : List (Nat × Obj)} (hL : getL T sg sl = some L) {h' : Heap} {g' : Array GenState} {L' : List Obj} {ns nq : List (Nat × Obj)}
    (A : After V h L q h' g' L' ns nq) {T' : BT} (hT : insL (setL T sl L') m ns = some T') :
    Rel P V hB h' g' fx qB T' (m + ns.length) ((m + ns.length, h'.objs.size) :: segs0 m ns sg) (nq ++ q) g'.size [] := by
  have z := getL_spec hL
  have hlen : L'.length = sl.length := A.len.trans z.1
  have old : ∀ i, i < m → ad ((m + ns.length, h'.objs.size) :: segs0 m ns sg) i = ad sg i := fun i hi => by
    rw [ad_cons_lt (i := i) (by omega), segs0_old ns m sg i hi]
  have nw : ∀ (k : Nat) (p : Nat × Obj), ns[k]? = some p → ad ((m + ns.length, h'.objs.size) :: segs0 m ns sg) (m + k) = p.1 := fun k p e => by
    have hk : k < ns.length := (List.getElem?_eq_some_iff.mp e).1
    rw [ad_cons_lt (i := m + k) (by omega), segs0_new ns m sg k p e]
  have cas : ∀ i, i < m + ns.length → i < m ∨ ∃ (k : Nat) (p : Nat × Obj), i = m + k ∧ ns[k]? = some p := fun i hi => by
    by_cases q : i < m
    · exact .inl q
    · exact .inr ⟨i - m, ns[i - m]'(by omega), by omega, List.getElem?_eq_getElem (by omega)⟩
  have hLs : ∀ x, x ∈ L.map Prod.fst → ∃ i, i < m ∧ ad sg i = x := fun x hx => by
    obtain ⟨p, hp, rfl⟩ := List.mem_map.mp hx
    obtain ⟨i, _, e1, e2, _⟩ := getL_mem hL hp
    exact ⟨i, (D.own i _ e2).1, e1.symm⟩
  have slot : ∀ i, i < m → ad sg i < h.objs.size := D.lt
  have newge : ∀ (k : Nat) (p : Nat × Obj), ns[k]? = some p → h'.get? p.1 = some p.2 ∧ h.objs.size ≤ p.1 := fun k p e => A.new p (List.mem_of_getElem? e)
  have keep : ∀ b o, h.get? b = some o → b ∉ V.vs → (∀ i, i < m → b ≠ ad sg i) → h'.get? b = some o := fun b o e h1 h2 => A.keep b o e h1 fun x => by
    obtain ⟨i, hi, e'⟩ := hLs b x
    exact h2 i hi e'.symm
  refine ⟨⟨_, _, _, rfl, Nat.le_refl _, by omega⟩, fun i j hi hj e => ?_, fun i hi => ?_, fun i hi => (old i (Nat.lt_of_lt_of_le hi D.fxm)).trans (D.fixed i hi), Nat.le_trans D.fxm (Nat.le_add_right ..), fun i o e => ?_, fun a o e => ?_, fun i hi => ?_, fun p hp => ?_, fun p hp => ?_, fun p hp => List.mem_append_right _ (D.qs p hp), fun i hi => ?_, fun b o e x y => ?_, Nat.le_trans D.blt A.size, D.big, D.tv, A.inv, rfl, fun p hp => nomatch hp⟩
  · rcases cas i hi with hi | ⟨k, p, rfl, hk⟩
    · rcases cas j hj with hj | ⟨k', p', rfl, hk'⟩
      · rw [old i hi, old j hj] at e
        exact D.inj i j hi hj e
      · rw [old i hi, nw k' p' hk'] at e
        have := slot i hi
        have := (newge k' p' hk').2
        omega
    · rcases cas j hj with hj | ⟨k', p', rfl, hk'⟩
      · rw [old j hj, nw k p hk] at e
        have := slot j hj
        have := (newge k p hk).2
        omega
      · rw [nw k p hk, nw k' p' hk'] at e
        have a1 : (ns.map Prod.fst)[k]? = some p.1 := by rw [List.getElem?_map, hk]; rfl
        have a2 : (ns.map Prod.fst)[k']? = some p.1 := by rw [List.getElem?_map, hk']; show some p'.1 = _; rw [e]
        have hk2 : k < (ns.map Prod.fst).length := (List.getElem?_eq_some_iff.mp a1).1
        have := (List.getElem?_inj hk2 A.newd).mp (a1.trans a2.symm)
        omega
  · rcases cas i hi with hi | ⟨k, p, rfl, hk⟩
    · rw [old i hi]; exact Nat.lt_of_lt_of_le (slot i hi) A.size
    · rw [nw k p hk]; exact Heap.lt_size (newge k p hk).1
  · rcases insL_get ns _ _ m i o hT e with ⟨k, p, h1, rfl, rfl⟩ | h1
    · rw [nw k p h1]
      exact ⟨by have := (List.getElem?_eq_some_iff.mp h1).1; omega, fun _ => (newge k p h1).1⟩
    · rcases setL_get sl L' T i o h1 hlen with ⟨k, h2, h3⟩ | ⟨h2, h3⟩
      · have hk : k < L.length := by rw [z.1]; exact (List.getElem?_eq_some_iff.mp h2).1
        obtain ⟨i', e1, e2, e3, _⟩ := z.2.2 k L[k] (List.getElem?_eq_getElem hk)
        rw [h2] at e1
        cases e1
        have hi := (D.own i _ e3).1
        refine ⟨by omega, fun hl => ?_⟩
        rw [old i hi, ← e2]
        exact A.here k _ o (List.getElem?_eq_getElem hk) h3 hl
      · have y := D.own i o h3
        refine ⟨by omega, fun hl => ?_⟩
        rw [old i y.1]
        refine A.keep _ _ (y.2 hl) (D.apart i y.1).2 fun x => ?_
        rw [z.2.1] at x
        obtain ⟨j, hj, e⟩ := List.mem_map.mp x
        obtain ⟨k, hk⟩ := List.getElem?_of_mem hj
        have hk2 : k < L.length := by rw [z.1]; exact (List.getElem?_eq_some_iff.mp hk).1
        obtain ⟨i', e1, e2, e3, _⟩ := z.2.2 k L[k] (List.getElem?_eq_getElem hk2)
        rw [hk] at e1
        cases e1
        exact h2 (D.inj j i (D.own j _ e3).1 y.1 e ▸ hj)
  · refine keep a o (D.top a o e) (fun x => ?_) fun i hi x => ?_
    · exact D.tv a o e x
    · have := (D.apart i hi).1
      rw [← x, e] at this
      cases this
  · rcases cas i hi with hi | ⟨k, p, rfl, hk⟩
    · rw [old i hi]; exact D.apart i hi
    · rw [nw k p hk]
      have y := (newge k p hk).2
      refine ⟨?_, fun x => Nat.lt_irrefl _ (Nat.lt_of_lt_of_le (D.inv.lt x) y)⟩
      cases e : (Mine.top P).get p.1 with
      | none => rfl
      | some o' => exact absurd (D.tlt e) (Nat.not_lt.mpr y)
  · rcases List.mem_append.mp hp with hp | hp
    · rcases A.kn p hp with hq | ⟨y1, y2, y3⟩
      · have y := D.gh p hq
        refine ⟨keep _ _ y.1 y.2.2 y.2.1, fun i hi => ?_, y.2.2⟩
        rcases cas i hi with hi | ⟨k, p', rfl, hk⟩
        · rw [old i hi]; exact y.2.1 i hi
        · rw [nw k p' hk]
          exact Nat.ne_of_lt (Nat.lt_of_lt_of_le (Heap.lt_size y.1) (newge k p' hk).2)
      · refine ⟨y1, fun i hi => ?_, fun x => Nat.lt_irrefl _ (Nat.lt_of_lt_of_le (D.inv.lt x) y2)⟩
        rcases cas i hi with hi | ⟨k, p', rfl, hk⟩
        · rw [old i hi]; exact Nat.ne_of_gt (Nat.lt_of_lt_of_le (slot i hi) y2)
        · rw [nw k p' hk]
          exact fun e => y3 (e ▸ List.mem_map_of_mem (List.mem_of_getElem? hk))
    · have y := D.gh p hp
      refine ⟨keep _ _ y.1 y.2.2 y.2.1, fun i hi => ?_, y.2.2⟩
      rcases cas i hi with hi | ⟨k, p', rfl, hk⟩
      · rw [old i hi]; exact y.2.1 i hi
      · rw [nw k p' hk]
        exact Nat.ne_of_lt (Nat.lt_of_lt_of_le (Heap.lt_size y.1) (newge k p' hk).2)
  · rcases List.mem_append.mp hp with hp | hp
    · rcases A.kn p hp with hq | ⟨y1, y2, y3⟩
      · exact D.gn p hq
      · exact .inr (Nat.le_trans D.blt y2)
    · exact D.gn p hp
  · rcases cas i hi with hi | ⟨k, p, rfl, hk⟩
    · rw [old i hi]; exact D.new i hi
    · rw [nw k p hk]; exact .inr (Nat.le_trans D.blt (newge k p hk).2)
  · refine keep b o (D.keep b o e x y) x fun i hi w => ?_
    rcases D.new i hi with hn | hn
    · exact y (w ▸ hn)
    · rw [← w] at hn
      exact absurd (Heap.lt_size e) (Nat.not_lt.mpr hn)
end
end Mine

namespace Mine
open PySem PySem.W PySem.W.X

structure FitP (w : World) (V : Vol) (A : Around) (G : Cf) (qB : List (Nat × Obj)) : Prop where
  P : G.P = w.params
  hd : A.handled = none
  ok : ∀ C ∈ G.cts, CtOk w V C
  kn : ∀ p ∈ G.kn, p ∈ qB
  dep : A.depth + G.lim ≤ 990
  uni : A.units + 5 * G.lim ≤ 9700

theorem nth_mem {α : Type} : ∀ {l : List α} {k : Nat} {R : α}, nth l k = some R → R ∈ l
  | [], _, _, e => by cases e
  | r :: l, 0, R, e => by cases e; exact List.Mem.head _
  | r :: l, k + 1, R, e => List.Mem.tail _ (nth_mem (l := l) (k := k) e)

section
variable {w : World} {V : Vol} {A : Around} {R : Result → Shared → Prop} {G : Cf} {hB : Heap} {fx : List Nat} {qB : List (Nat × Obj)} {d : Drawn} {os : OsState}
noncomputable abbrev RelH (w : World) (V : Vol) (hB : Heap) (fx : List Nat) (qB : List (Nat × Obj)) (x : Nx) (h : Heap) (g : Array GenState) : Prop := Rel w.params V hB h g fx qB x.T x.m x.sg x.q x.gz x.gs
noncomputable def FinOk (w : World) (V : Vol) (R : Result → Shared → Prop) (G : Cf) (hB : Heap) (fx : List Nat) (qB : List (Nat × Obj)) (d : Drawn) (os : OsState) : Prop :=
  ∀ (x : Nx) h' g', G.fin x → RelH w V hB fx qB x h' g' → R x.r ⟨h', g', d, x.tk, os⟩
noncomputable def Good (w : World) (V : Vol) (A : Around) (R : Result → Shared → Prop) (hB : Heap) (fx : List Nat) (qB : List (Nat × Obj)) (d : Drawn) (os : OsState) (c : Code) (κ : K) (t : Sem Fin) (T : BT) (m tk : Nat) (sg : Segs) (q : List (Nat × Obj)) (gz : Nat) (gs : List (Nat × Code)) (ak ek : List Nat) : Prop :=
  ak = ek ∧ (okK κ → ∀ h g, Rel w.params V hB h g fx qB T m sg q gz gs → Mn w A R c κ t ⟨h, g, d, tk, os⟩)
theorem room_of (F : FitP w V A G qB) {κ : K} {l : Nat} (ok : okK κ) (hd : hdK none κ = none) (hb : Nat.ble (dK κ + l) G.lim = true) : Room l (arK A κ) := by
  have h1 := arK_depth (A := A) ok
  have h2 := arK_units (A := A) (κ := κ)
  have h3 : dK κ + l ≤ G.lim := Nat.le_of_ble_eq_true hb
  have h4 := F.dep
  have h5 := F.uni
  exact ⟨by omega, by omega, by rw [arK_handled F.hd]; exact hd⟩
theorem useC_ok (F : FitP w V A G qB) {κd : Nat} {c' : Code} {go : Nx → List Nat → Prop} {T : BT} {m tk : Nat} {sg : Segs} {q : List (Nat × Obj)} {gz : Nat} {gs : List (Nat × Code)} {hs ak ek : List Nat}
    (H : useC G κd c' go T m tk sg q gs hs ak ek) :
    ak = ek ∧ ∀ {A' : Around} {Q : Result → Shared → Prop}, (∀ l, Nat.ble (κd + l) G.lim = true → Room l A') →
      (∀ (x : Nx) hs', go x hs' → ∀ h' g', RelH w V hB fx qB x h' g' → Q x.r ⟨h', g', d, x.tk, os⟩) →
      ∀ h g, Rel w.params V hB h g fx qB T m sg q gz gs → codeAny (model PW w) A' c' Q ⟨h, g, d, tk, os⟩ := by
  unfold useC at H
  repeat' split at H
  all_goals try exact H.elim
  rename_i C eC _ hb _ _ _ _ sh es _ hn _ L eL
  refine ⟨H.1, fun hr hgo h g D => F.ok C (nth_mem eC) _ _ _ _ _ _ H.2 _ _ h g d os (hr _ hb) (D.have hn eL) fun r tk' L' ns nq h' g' hp hA => ?_⟩
  have z := hp (h'.objs.size - 247) g'.size
  rw [Nat.sub_add_cancel (Nat.le_trans (D.have hn eL).big hA.size)] at z
  split at z
  · rename_i T' eT
    exact hgo _ _ z h' g' (D.jump hn eL hA eT)
  · exact z.elim
theorem ldP_ok {kn : List (Nat × Obj)} (hk : ∀ p ∈ kn, p ∈ qB) {T : BT} {sg : Segs} {q : List (Nat × Obj)} {a : Nat} {hs ak ek : List Nat} {k : Obj → List Nat → List Nat → List Nat → Prop} (H : ldP w.params kn T sg q a hs ak ek k) :
    ∃ o hs' ak' ek', k o hs' ak' ek' ∧ (ak' = ek' → ak = ek ∧ ∀ {h g m gz gs}, Rel w.params V hB h g fx qB T m sg q gz gs → h.get? a = some o) := by
  unfold ldP at H
  repeat' split at H
  all_goals try exact H.elim
  · rename_i e
    exact ⟨_, _, _, _, H, fun x => ⟨x, fun D => D.top _ _ e⟩⟩
  · rename_i e
    exact ⟨_, _, _, _, H, fun x => by injection x with e1 e2; exact ⟨e2, fun D => e1 ▸ (D.gh _ (D.qs _ (hk _ (nth_mem e)))).1⟩⟩
  · rename_i e
    exact ⟨_, _, _, _, H, fun x => by injection x with e1 e2; exact ⟨e2, fun D => e1 ▸ (D.gh _ (nth_mem e)).1⟩⟩
  · rename_i e _ hf
    exact ⟨_, _, _, _, H, fun x => by injection x with e1 e2; exact ⟨e2, fun D => e1 ▸ (D.own _ _ e).2 hf⟩⟩
theorem upP_ok {T : BT} {sg : Segs} {a : Nat} {f : Obj → Obj} {hs ak ek : List Nat} {k : BT → List Nat → List Nat → List Nat → Prop} (H : upP T sg a f hs ak ek k) :
    ∃ T' hs' ak' ek', k T' hs' ak' ek' ∧ (ak' = ek' → ak = ek ∧ ∀ {h g m gz gs} {q : List (Nat × Obj)}, Rel w.params V hB h g fx qB T m sg q gz gs → (∃ o, h.get? a = some o) ∧ Rel w.params V hB (h.update a f) g fx qB T' m sg q gz gs) := by
  unfold upP at H
  repeat' split at H
  all_goals try exact H.elim
  rename_i e _ hf
  rw [Bool.or_eq_false_iff] at hf
  exact ⟨_, _, _, _, H, fun x => by injection x with e1 e2; exact ⟨e2, fun D => e1 ▸ ⟨⟨_, (D.own _ _ e).2 hf.1⟩, D.update e hf.1 hf.2⟩⟩⟩
theorem pyC_ok (F : FitP w V A G qB) {κ : K} {n : Nat} {c : Code} {k : Sem Fin → Prop} (H : pyC G n c k) (h1 : okK κ → (arK A κ).depth ≤ A.depth + n + 6) :
    ∃ t, k t ∧ (okK κ → ∀ {s : Shared}, (∀ a o, (top w.params).get a = some o → s.heap.get? a = some o) → Mn w A R c κ t s → Mn w A R c κ (denote table c) s) := by
  unfold pyC at H
  repeat' split at H
  all_goals try exact H.elim
  rename_i hb _ args _ a _ o e _ t e'
  refine ⟨_, H, fun ok s ht h => ?_⟩
  rw [F.P] at e
  have h1 := h1 ok
  have h2 : (Code.call (.ref a) args).weight ≤ 2 := weight_le (c := .call (.ref a) args) rfl
  have h3 : n ≤ G.lim := Nat.le_of_ble_eq_true hb
  have h4 := F.dep
  exact py_sound (ht _ _ e) e' (by show (arK A κ).depth + (Code.call (.ref a) args).weight < 1000; omega) h
theorem fuC_ok (F : FitP w V A G qB) {κ : K} {c : Code} {k : Sem Fin → Prop} (H : fuC G κ c k) :
    ∃ t, k t ∧ (okK κ → ∀ {s : Shared}, Mn w A R c κ t s → Mn w A R c κ (denote table c) s) := by
  unfold fuC at H
  repeat' split at H
  all_goals try exact H.elim
  rename_i hb _ body env
  refine ⟨_, H, fun ok s h => ?_⟩
  have h1 := arK_depth (A := A) ok
  have h2 := arK_units (A := A) (κ := κ)
  have h3 : dK κ ≤ G.lim := Nat.le_of_ble_eq_true hb
  have h4 := F.dep
  have h5 := F.uni
  have h6 : (Code.func body env).weight ≤ 2 := weight_le (c := .func body env) rfl
  have h7 : (Code.func body env).cUnits = 3 := rfl
  have hB : Rm ((arK A κ).under (.func body env)) := ⟨by show (arK A κ).depth + (Code.func body env).weight < 1000; omega, by show (arK A κ).units + (Code.func body env).cUnits < 9900; omega⟩
  intro Γ p hc hΓ
  exact Le.funcX hB Γ p _ _ _ hc (hc ▸ hΓ.in) (h Γ p hc hΓ)
theorem stepP_ok (F : FitP w V A G qB) (FO : FinOk w V R G hB fx qB d os) (ih : PTy)
    (IH : ∀ {c κ t T m tk sg q gz gs hs ak ek}, ih c κ t T m tk sg q gz gs hs ak ek → Good w V A R hB fx qB d os c κ t T m tk sg q gz gs ak ek) :
    ∀ c κ t T m tk sg q gz gs hs ak ek, stepP G ih c κ t T m tk sg q gz gs hs ak ek → Good w V A R hB fx qB d os c κ t T m tk sg q gz gs ak ek := by
  intro c κ t T m tk sg q gz gs hs ak ek H
  cases t with
  | pure fin =>
    cases fin with
    | done f =>
      cases κ with
      | base => exact ⟨H.1, fun _ h g D => y_pure _ _ _ _ _ _ _ _ _ (y_done _ _ _ _ _ _ (FO _ h g H.2 D))⟩
      | ret c' hd k κ' => exact ⟨(IH H).1, fun ok h g D => y_pure _ _ _ _ _ _ _ _ _ (y_done _ _ _ _ _ _ ((IH H).2 ok.2 h g D))⟩
    | again c' =>
      cases hq : qZ c' with
      | false => simp only [stepP, hq] at H
      | true =>
      simp only [stepP, hq] at H
      rw [qZ_eq] at hq
      cases hs with
      | nil => exact H.elim
      | cons x hs =>
      match x, H with
      | 0, H =>
        exact ⟨(IH H).1, fun ok h g D => y_pure _ _ _ _ _ _ _ _ _ (y_again _ _ _ _ _ _ hq (y_code _ _ _ _ _ _ (dZ_eq ▸ (IH H).2 ok h g D)))⟩
      | 1, H =>
        obtain ⟨t', H, hm⟩ := fuC_ok (R := R) F H
        exact ⟨(IH H).1, fun ok h g D => y_pure _ _ _ _ _ _ _ _ _ (y_again _ _ _ _ _ _ hq (y_code _ _ _ _ _ _ (hm ok ((IH H).2 ok h g D))))⟩
      | n + 2, H =>
        cases hhd : hdK none κ with
        | some _ => simp only [hhd] at H
        | none =>
        simp only [hhd] at H
        have z := useC_ok (hB := hB) (fx := fx) (qB := qB) (d := d) (os := os) (gz := gz) F H
        refine ⟨z.1, fun ok h g D => y_pure _ _ _ _ _ _ _ _ _ (y_again _ _ _ _ _ _ hq (z.2 (fun l hb => room_of F ok hhd hb) (fun x hs' hx h' g' D' => ?_) h g D))⟩
        cases κ with
        | base => exact FO _ h' g' hx D'
        | ret c₂ hd₂ k₂ κ₂ => exact (IH hx).2 ok.2 h' g' D'
  | raise e =>
    cases κ with
    | base => exact ⟨H.1, fun _ h g D => y_raise _ _ _ _ _ _ _ _ _ (y_err _ _ _ (FO _ h g H.2 D))⟩
    | ret c' hd k κ' => exact ⟨(IH H).1, fun ok h g D => y_raise _ _ _ _ _ _ _ _ _ (y_err _ _ _ ((IH H).2 ok.2 h g D))⟩
  | rule tag k => exact ⟨(IH H).1, fun ok h g D => y_skim _ _ _ _ _ _ _ _ _ 1 ((IH H).2 ok h g D)⟩
  | «at» q k => exact ⟨(IH H).1, fun ok h g D => y_skim _ _ _ _ _ _ _ _ _ 1 ((IH H).2 ok h g D)⟩
  | point l k => exact ⟨(IH H).1, fun ok h g D => y_skim _ _ _ _ _ _ _ _ _ 1 ((IH H).2 ok h g D)⟩
  | ask k => exact ⟨(IH H).1, fun ok h g D => y_skim _ _ _ _ _ _ _ _ _ 1 (F.P ▸ (IH H).2 ok h g D)⟩
  | fresh k => exact ⟨(IH H).1, fun ok h g D => y_fresh _ _ _ _ _ _ _ _ _ _ _ _ _ ((IH H).2 ok h g D)⟩
  | handled own k =>
    cases own with
    | true => exact H.elim
    | false => exact ⟨(IH H).1, fun ok h g D => y_handled _ _ _ _ _ _ _ _ _ (arK_handled F.hd κ ▸ (IH H).2 ok h g D)⟩
  | alloc o k =>
    simp only [stepP] at H
    repeat' split at H
    all_goals try exact H.elim
    rename_i hf _ o' e
    exact ⟨(IH H).1, fun ok h g D => wpOwn_bind (m := alloc o) (f := k) (wpOwn_of_wpAny (wpAny_alloc (D.next ▸ (IH H).2 ok _ g (D.alloc hf (by rw [e]; rfl)))))⟩
  | load a _ k =>
    simp only [stepP, F.P] at H
    obtain ⟨o, _, _, _, H, hl⟩ := ldP_ok (V := V) (hB := hB) (fx := fx) (qB := qB) F.kn H
    exact ⟨(hl (IH H).1).1, fun ok h g D => y_load _ _ _ _ _ _ _ _ _ _ _ _ _ _ _ _ ((hl (IH H).1).2 D) ((IH H).2 ok h g D)⟩
  | loadIfAlive a k =>
    simp only [stepP, F.P] at H
    obtain ⟨o, _, _, _, H, hl⟩ := ldP_ok (V := V) (hB := hB) (fx := fx) (qB := qB) F.kn H
    exact ⟨(hl (IH H).1).1, fun ok h g D => y_alive _ _ _ _ _ _ _ _ _ _ _ _ _ _ _ ((hl (IH H).1).2 D) ((IH H).2 ok h g D)⟩
  | update a _ f k =>
    simp only [stepP] at H
    obtain ⟨T', _, _, _, H, hl⟩ := upP_ok (w := w) (V := V) (hB := hB) (fx := fx) (qB := qB) H
    refine ⟨(hl (IH H).1).1, fun ok h g D => ?_⟩
    obtain ⟨⟨o, ho⟩, D'⟩ := (hl (IH H).1).2 D
    exact wpOwn_bind (m := updatePart a _ f) (f := k) (wpOwn_of_wpAny (wpAny_updatePart ho ((IH H).2 ok _ g D')))
  | call c' hd gd l k =>
    have nb : okMark hd = true → hd ≠ some byPass := fun q e => by subst e; simp [okMark] at q
    cases hn : noC c with
    | false => simp only [stepP, hn] at H
    | true =>
    simp only [stepP, hn] at H
    cases hs with
    | nil => exact H.elim
    | cons x hs =>
    match x, H with
    | 0, H =>
      cases hm : okMark hd with
      | false => simp only [hm] at H
      | true =>
      simp only [hm] at H
      exact ⟨(IH H).1, fun ok h g D => y_call _ _ _ _ _ _ _ _ _ _ _ _ _ (nb hm) (y_code _ _ _ _ _ _ (dZ_eq ▸ (IH H).2 ⟨hn, ok⟩ h g D))⟩
    | 1, H =>
      cases hm : okMark hd with
      | false => simp only [hm] at H
      | true =>
      simp only [hm] at H
      obtain ⟨t', H, hp⟩ := pyC_ok (R := R) (κ := .ret c hd k κ) F H fun ok => by
        have := arK_depth (A := A) ok
        have : wC c ≤ 6 := by cases c <;> simp [wC]
        simp only [dK] at *
        omega
      exact ⟨(IH H).1, fun ok h g D => y_call _ _ _ _ _ _ _ _ _ _ _ _ _ (nb hm) (y_code _ _ _ _ _ _ (hp ⟨hn, ok⟩ D.top ((IH H).2 ⟨hn, ok⟩ h g D)))⟩
    | n + 2, H =>
      cases hd with
      | some v => exact H.elim
      | none =>
      cases hhd : hdK none κ with
      | some _ => simp only [hhd] at H
      | none =>
      simp only [hhd] at H
      have z := useC_ok (hB := hB) (fx := fx) (qB := qB) (d := d) (os := os) (gz := gz) F H
      exact ⟨z.1, fun ok h g D => y_call _ _ _ _ _ _ _ _ _ _ _ _ _ (by intro x; cases x) (z.2 (fun l hb => room_of (κ := .ret c none k κ) F ⟨hn, ok⟩ hhd hb) (fun x hs' hx h' g' D' => (IH hx).2 ok h' g' D') h g D)⟩
  | newGen c' k => exact ⟨(IH H).1, fun ok h g D => y_newGen _ _ _ _ _ _ _ _ _ _ _ _ _ _ (D.gsz ▸ (IH H).2 ok h _ (D.newGen c'))⟩
  | stack k =>
    refine ⟨H.1, fun ok h g D Γ p hc hΓ => ?_⟩
    rw [Sem.wp_stack, hc]
    exact (IH (H.2 p Γ.below)).2 ok h g D Γ p hc hΓ
  | _ => exact H.elim
theorem runP_ok (F : FitP w V A G qB) (FO : FinOk w V R G hB fx qB d os) :
    ∀ f {c κ t T m tk sg q gz gs hs ak ek}, runP G f c κ t T m tk sg q gz gs hs ak ek → Good w V A R hB fx qB d os c κ t T m tk sg q gz gs ak ek
  | 0 => fun H => H.elim
  | n + 1 => fun H => stepP_ok F FO (runP G n) (runP_ok F FO n) _ _ _ _ _ _ _ _ _ _ _ _ _ H
end
end Mine

namespace Mine
open PySem PySem.W PySem.W.X
noncomputable def nSGR : Nat := 10139888712337904147300001983332972444938612
noncomputable def Pb (n : Nat) (P : Params) (b : Bool) : Params := { P with followText := fun r => match Nat.beq (PySem.code r) n with | true => b | false => P.followText r }
theorem Pb_self {n : Nat} {s : String} (hs : PySem.code s = n) (P : Params) : P = Pb n P (P.followText s) := by
  unfold Pb
  have : (fun r => match Nat.beq (PySem.code r) n with | true => P.followText s | false => P.followText r) = P.followText := by
    funext r
    split
    · rename_i h
      rw [PySem.code_inj r s ((Nat.eq_of_beq_eq_true h).trans hs.symm)]
    · rfl
  rw [this]
theorem sgr (P : Params) : ∃ b, P = Pb nSGR P b := ⟨_, Pb_self (s := "special-get-raises") (by decide +kernel) P⟩
end Mine

namespace Mine
open PySem PySem.W PySem.W.X

section
variable {w : World} {P : Params} {V : Vol} {h : Heap} {g : Array GenState} {L q : List (Nat × Obj)} {gs : List (Nat × Code)}
theorem Have.start (H : Have P V h g L q gs) {T : BT} (hT : insL .nil 0 L = some T) : Rel P V h h g (L.map Prod.fst) q T L.length ((L.length, h.objs.size) :: segs0 0 L []) q g.size gs := by
  have at' : ∀ (k : Nat) (p : Nat × Obj), L[k]? = some p → ad ((L.length, h.objs.size) :: segs0 0 L []) k = p.1 := fun k p e => by
    have hk : k < L.length := (List.getElem?_eq_some_iff.mp e).1
    rw [ad_cons_lt (i := k) hk]
    have := segs0_new L 0 [] k p e
    rw [Nat.zero_add] at this
    exact this
  have mem : ∀ i, i < L.length → ∃ p ∈ L, L[i]? = some p ∧ ad ((L.length, h.objs.size) :: segs0 0 L []) i = p.1 := fun i hi =>
    ⟨L[i], List.getElem_mem hi, List.getElem?_eq_getElem hi, at' i _ (List.getElem?_eq_getElem hi)⟩
  refine ⟨⟨_, _, _, rfl, Nat.le_refl _, by omega⟩, fun i j hi hj e => ?_, fun i hi => ?_, fun i hi => ?_, by rw [List.length_map]; exact Nat.le_refl _, fun i o e => ?_, H.top, fun i hi => ?_, fun p hp => ?_, fun p hp => .inl hp, fun p hp => hp, fun i hi => ?_, fun b o e _ _ => e, Nat.le_refl _, H.big, H.tv, H.inv, rfl, H.gsk⟩
  · obtain ⟨p, hp, e1, e2⟩ := mem i hi
    obtain ⟨p', hp', e1', e2'⟩ := mem j hj
    rw [e2, e2'] at e
    have a1 : (L.map Prod.fst)[i]? = some p.1 := by rw [List.getElem?_map, e1]; rfl
    have a2 : (L.map Prod.fst)[j]? = some p.1 := by rw [List.getElem?_map, e1']; show some p'.1 = _; rw [e]
    exact (List.getElem?_inj (by rw [List.length_map]; exact hi) H.nodup).mp (a1.trans a2.symm)
  · obtain ⟨p, hp, e1, e2⟩ := mem i hi
    rw [e2]; exact Heap.lt_size (H.has p hp)
  · rw [List.length_map] at hi
    obtain ⟨p, hp, e1, e2⟩ := mem i hi
    rw [e2, List.getElem?_map, e1]; rfl
  · rcases insL_get L _ _ 0 i o hT e with ⟨k, p, h1, rfl, rfl⟩ | h1
    · rw [Nat.zero_add, at' k p h1]
      exact ⟨(List.getElem?_eq_some_iff.mp h1).1, fun _ => H.has p (List.mem_of_getElem? h1)⟩
    · cases h1
  · obtain ⟨p, hp, e1, e2⟩ := mem i hi
    rw [e2]; exact H.apart p hp
  · have y := H.gh p hp
    refine ⟨y.1, fun i hi => ?_, y.2.2⟩
    obtain ⟨p', hp', e1, e2⟩ := mem i hi
    rw [e2]
    exact fun e => y.2.1 (e ▸ List.mem_map_of_mem hp')
  · obtain ⟨p, hp, e1, e2⟩ := mem i hi
    rw [e2]
    exact .inl (List.mem_map_of_mem hp)
end
noncomputable def runsT (P : Params) (lim : Nat) (cts : List Ct) (kn : List (Nat × Obj)) (fuel : Nat) (c : Code) (t : Sem Fin) (L q : List (Nat × Obj)) (gs : List (Nat × Code)) (tk n gz : Nat) (hs sl sq : List Nat) (j : Nat) (post : Post) : Prop :=
  match insL .nil 0 L with
  | none => False
  | some T => runP { P, lim, cts, kn, fin := finC L.length sl sq j post } fuel c .base t T L.length tk ((L.length, n) :: segs0 0 L []) q gz gs hs [] []
theorem takeL_mem {α : Type} : ∀ {n : Nat} {l : List α} {a : α}, a ∈ takeL n l → a ∈ l
  | 0, _, _, h => nomatch h
  | n + 1, [], _, h => nomatch h
  | n + 1, x :: l, a, h => by
    rcases List.mem_cons.mp h with rfl | h
    · exact List.mem_cons_self
    · exact List.mem_cons_of_mem _ (takeL_mem h)
theorem upto_get : ∀ (n i : Nat), i < n → (upto n)[i]? = some i
  | n + 1, i, h => by
    have hl : ∀ n, (upto n).length = n := fun n => by
      induction n with
      | zero => rfl
      | succ n ih => simp [upto, ih]
    unfold upto
    by_cases q : i < n
    · rw [List.getElem?_append_left (by rw [hl]; exact q)]
      exact upto_get n i q
    · have : i = n := by omega
      subst this
      rw [List.getElem?_append_right (by rw [hl]; exact Nat.le_refl _), hl, Nat.sub_self]
      rfl
theorem upto_len : ∀ n, (upto n).length = n
  | 0 => rfl
  | n + 1 => by simp [upto, upto_len n]
theorem start_ok {w : World} {A : Around} {R : Result → Shared → Prop} {c : Code} {s : Shared} (ht : ∀ a o, (top w.params).get a = some o → s.heap.get? a = some o) (hd : A.depth ≤ 990) (h : Mn w A R c .base (start w.params c) s) : codeAny (model PW w) A c R s := by
  refine codeAny_of_Mn ?_
  unfold start at h
  split at h
  · split at h
    · split at h
      · rename_i o e
        split at h
        · rename_i t e'
          refine py_sound (κ := .base) (ht _ _ e) e' ?_ h
          have h3 : ∀ {f : Value} {x : Args}, (Code.call f x).weight ≤ 2 := fun {f x} => weight_le (c := .call f x) rfl
          exact Nat.lt_of_le_of_lt (Nat.add_le_add hd h3) (by decide)
        · rw [dZ_eq] at h; exact h
      · rw [dZ_eq] at h; exact h
    · rw [dZ_eq] at h; exact h
  · rw [dZ_eq] at h; exact h
theorem run_mn {w : World} {V : Vol} {lv lim : Nat} (hl : lim ≤ lv) {cts : List Ct} (hc : ∀ C ∈ cts, CtOk w V C)
    {c : Code} {t : Sem Fin} {L q kn : List (Nat × Obj)} {gs : List (Nat × Code)} {tk : Nat} {post : Post} {A : Around} {Q : Result → Shared → Prop} {h : Heap} {g : Array GenState} {d : Drawn} {os : OsState} (hk : ∀ p ∈ kn, p ∈ q) (hr : Room lv A) (H : Have w.params V h g L q gs)
    (hQ : ∀ r tk' L' ns nq h' g', post r tk' L' ns nq → After V h L q h' g' L' ns nq → Q r ⟨h', g', d, tk', os⟩) {fuel : Nat} {hs sl sq : List Nat} {j : Nat}
    (x : runsT w.params lim cts kn fuel c t L q gs tk (h.objs.size - 247 + 247) g.size hs sl sq j post) : Mn w A Q c .base t ⟨h, g, d, tk, os⟩ := by
  rw [Nat.sub_add_cancel H.big] at x
  unfold runsT at x
  split at x
  · exact x.elim
  · rename_i T hT
    have F : FitP w V A { P := w.params, lim, cts, kn, fin := finC L.length sl sq j post } q := ⟨rfl, hr.hd, hc, hk, by have := hr.depth; show A.depth + lim ≤ 990; omega, by have := hr.units; show A.units + 5 * lim ≤ 9700; omega⟩
    have FO : FinOk w V Q { P := w.params, lim, cts, kn, fin := finC L.length sl sq j post } h (L.map Prod.fst) q d os := by
      intro x h' g' hx D
      change finC L.length sl sq j post x at hx
      unfold finC at hx
      split at hx
      · exact hx.elim
      · rename_i hn
        split at hx
        · exact hx.elim
        · rename_i L' eL
          split at hx
          · exact hx.elim
          · rename_i ns en
            split at hx
            · exact hx.elim
            · rename_i nq eq
              have nd := ndup_nodup hn
              have zL := getA_spec eL
              have zn := getL_spec en
              have zq := getL_spec eq
              have hb : ∀ {sl : List Nat} {L : List (Nat × Obj)}, getL x.T x.sg sl = some L → ∀ i ∈ sl, i < x.m := fun {sl L} e i hi => by
                have z := getL_spec e
                obtain ⟨k, hk⟩ := List.getElem?_of_mem hi
                have hlt : k < L.length := by rw [z.1]; exact (List.getElem?_eq_some_iff.mp hk).1
                obtain ⟨i', h1, h2, h3, _⟩ := z.2.2 k L[k] (List.getElem?_eq_getElem hlt)
                rw [hk] at h1
                cases h1
                exact (D.own i _ h3).1
              have hbA : ∀ i, i < L.length → i < x.m := fun i hi => by
                have hlt : i < L'.length := by rw [zL.1, upto_len]; exact hi
                obtain ⟨i', h1, h3⟩ := zL.2 i L'[i] (List.getElem?_eq_getElem hlt)
                rw [upto_get _ i hi] at h1
                cases h1
                exact (D.own i _ h3).1
              have n1 := (List.nodup_append.mp nd)
              have n2 := (List.nodup_append.mp n1.2.1)
              -- the touched slots' addresses are those of L
              have hadr : ∀ i, i < L.length → ad x.sg i = (L.map Prod.fst)[i]?.getD 0 := fun i hi => D.fixed i (by rw [List.length_map]; exact hi)
              have nw : ∀ i, i < x.m → i ∉ upto L.length → h.objs.size ≤ ad x.sg i := fun i hi hu => by
                rcases D.new i hi with z | z
                · obtain ⟨k, hk⟩ := List.getElem?_of_mem z
                  have hk' : k < L.length := by have := (List.getElem?_eq_some_iff.mp hk).1; rw [List.length_map] at this; exact this
                  have e := hadr k hk'
                  rw [hk] at e
                  have hkm : k < x.m := hbA k hk'
                  have := D.inj i k hi hkm (by rw [e]; rfl)
                  subst this
                  exact absurd (List.mem_of_getElem? (upto_get _ i hk')) hu
                · exact z
              refine hQ x.r x.tk L' ns (nq ++ takeL j x.q) h' g' hx ⟨?_, fun i p o e1 e2 hl => ?_, fun p hp => ?_, ?_, fun p hp => ?_, D.keep, D.blt, D.inv⟩
              · rw [zL.1, upto_len]
              · have hi : i < L.length := (List.getElem?_eq_some_iff.mp e1).1
                obtain ⟨i', h1, h3⟩ := zL.2 i o e2
                rw [upto_get _ i hi] at h1
                cases h1
                have := (D.own i _ h3).2 hl
                rw [hadr i hi, List.getElem?_map, e1] at this
                exact this
              · obtain ⟨i, hi, e1, e2, hl⟩ := getL_mem en hp
                have y := D.own i _ e2
                refine ⟨by rw [e1]; exact y.2 hl, ?_⟩
                rw [e1]
                exact nw i y.1 fun hu => n1.2.2 i hu i (List.mem_append_left _ hi) rfl
              · rw [zn.2.1]
                exact List.pairwise_map.mpr (n2.1.imp_of_mem fun {a b} ha hb' hne e => hne (D.inj a b (hb en a ha) (hb en b hb') e))
              · rcases List.mem_append.mp hp with hp | hp
                · obtain ⟨i, hi, e1, e2, hl⟩ := getL_mem eq hp
                  have y := D.own i _ e2
                  refine .inr ⟨by rw [e1]; exact y.2 hl, by rw [e1]; exact nw i y.1 fun hu => n1.2.2 i hu i (List.mem_append_right _ hi) rfl, fun hm => ?_⟩
                  rw [zn.2.1, e1] at hm
                  obtain ⟨k, hk, e⟩ := List.mem_map.mp hm
                  have := D.inj k i (hb en k hk) y.1 e
                  exact n2.2.2 k hk i hi this
                · have hq := takeL_mem hp
                  rcases D.gn p hq with z | z
                  · exact .inl z
                  · refine .inr ⟨(D.gh p hq).1, z, fun hm => ?_⟩
                    rw [zn.2.1] at hm
                    obtain ⟨k, hk, e⟩ := List.mem_map.mp hm
                    exact (D.gh p hq).2.1 k (hb en k hk) e.symm
    have z := runP_ok (w := w) (V := V) (A := A) (R := Q) (hB := h) (fx := L.map Prod.fst) (qB := q) (d := d) (os := os) F FO fuel x
    exact z.2 trivial h g (H.start hT)
noncomputable def runs (P : Params) (lim : Nat) (cts : List Ct) (kn : List (Nat × Obj)) (c : Code) (L q : List (Nat × Obj)) (gs : List (Nat × Code)) (tk n gz : Nat) (hs sl sq : List Nat) (j : Nat) (post : Post) : Prop :=
  runsT P lim cts kn 3000 c (start P c) L q gs tk (n + 247) gz hs sl sq j post
noncomputable def Sub (kn q : List (Nat × Obj)) : Prop := ∀ p ∈ kn, p ∈ q
theorem sub0 {q : List (Nat × Obj)} : Sub [] q := fun _ h => nomatch h
theorem subC {p : Nat × Obj} {kn q : List (Nat × Obj)} (h : p ∈ q) (hk : Sub kn q) : Sub (p :: kn) q := fun x hx => by
  rcases List.mem_cons.mp hx with rfl | hx
  · exact h
  · exact hk x hx
noncomputable def AllOk (w : World) (V : Vol) (l : List Ct) : Prop := ∀ C ∈ l, CtOk w V C
theorem c0 {w : World} {V : Vol} : AllOk w V [] := fun _ h => nomatch h
theorem cC {w : World} {V : Vol} {C : Ct} {l : List Ct} (h : CtOk w V C) (hl : AllOk w V l) : AllOk w V (C :: l) := fun x hx => by
  rcases List.mem_cons.mp hx with rfl | hx
  · exact h
  · exact hl x hx
theorem c1 {w : World} {V : Vol} {C : Ct} (h : CtOk w V C) : AllOk w V [C] := cC h c0
inductive Runs (w : World) (V : Vol) (lim : Nat) (c : Code) (L q : List (Nat × Obj)) (gs : List (Nat × Code)) (tk n gz : Nat) (post : Post) : Prop
  | mk {kn : List (Nat × Obj)} (hk : Sub kn q) {cts : List Ct} (hc : AllOk w V cts) (hs sl sq : List Nat) (j : Nat) (h : runs w.params lim cts kn c L q gs tk n gz hs sl sq j post)
section
variable {w : World} {V : Vol} {lim : Nat} {c : Code} {L q : List (Nat × Obj)} {gs : List (Nat × Code)} {tk n gz : Nat} {post : Post} {Q : Prop} {kn : List (Nat × Obj)} {cts : List Ct}
theorem ke {p q : Prop} (e : p = q) (h : q) : p := e ▸ h
theorem Runs.go (hk : Sub kn q) (hc : AllOk w V cts) (hs sl sq : List Nat) (j : Nat) (e : runs w.params lim cts kn c L q gs tk n gz hs sl sq j post = Q) (h : Q) : Runs w V lim c L q gs tk n gz post := .mk hk hc hs sl sq j (ke e h)
theorem row_eq {k : Nat} {P : Params} (h : ∃ b, P = Pb k P b) {F : Params → Prop} (e1 : F (Pb k P true) = Q) (e2 : F (Pb k P false) = Q) : F P = Q := by
  obtain ⟨b, hb⟩ := h
  cases b with
  | true => rw [← hb] at e1; exact e1
  | false => rw [← hb] at e2; exact e2
theorem Runs.go1 (hk : Sub kn q) (hc : AllOk w V cts) (hs sl sq : List Nat) (j : Nat) (e1 : runs (Pb nSGR w.params true) lim cts kn c L q gs tk n gz hs sl sq j post = Q) (e2 : runs (Pb nSGR w.params false) lim cts kn c L q gs tk n gz hs sl sq j post = Q) (h : Q) : Runs w V lim c L q gs tk n gz post :=
  .go hk hc hs sl sq j (row_eq (F := fun P => runs P lim cts kn c L q gs tk n gz hs sl sq j post) (sgr w.params) e1 e2) h
end
inductive RunsT (w : World) (V : Vol) (lim : Nat) (c : Code) (t : Sem Fin) (L q : List (Nat × Obj)) (gs : List (Nat × Code)) (tk n gz : Nat) (post : Post) : Prop
  | mk {kn : List (Nat × Obj)} (hk : Sub kn q) {cts : List Ct} (hc : AllOk w V cts) (hs sl sq : List Nat) (j : Nat) (h : runsT w.params lim cts kn 3000 c t L q gs tk (n + 247) gz hs sl sq j post)
theorem RunsT.go1 {w : World} {V : Vol} {lim : Nat} {c : Code} {t : Sem Fin} {L q : List (Nat × Obj)} {gs : List (Nat × Code)} {tk n gz : Nat} {post : Post} {Q : Prop} {kn : List (Nat × Obj)} {cts : List Ct} (hk : Sub kn q) (hc : AllOk w V cts) (hs sl sq : List Nat) (j : Nat)
    (e1 : runsT (Pb nSGR w.params true) lim cts kn 3000 c t L q gs tk (n + 247) gz hs sl sq j post = Q) (e2 : runsT (Pb nSGR w.params false) lim cts kn 3000 c t L q gs tk (n + 247) gz hs sl sq j post = Q) (h : Q) : RunsT w V lim c t L q gs tk n gz post :=
  .mk hk hc hs sl sq j (ke (row_eq (F := fun P => runsT P lim cts kn 3000 c t L q gs tk (n + 247) gz hs sl sq j post) (sgr w.params) e1 e2) h)
theorem ai {p q : Prop} (h : p) (h' : q) : p ∧ q := ⟨h, h'⟩
theorem rf {α : Type} (a : α) : a = a := rfl
noncomputable def ad7 (l : List Nat) : List Nat := l.map (· + 247)
theorem r7 (l : List Nat) : ad7 l = ad7 l := rfl
structure Cl where
  c : Code
  L : List (Nat × Obj)
noncomputable def mkC (lv : Nat) {X : Type} (view : Code → List (Nat × Obj) → List (Nat × Code) → X) (cl : X → Cl) (ok : X → List (Nat × Obj) → List (Nat × Code) → Nat → Post → Prop) : Ct :=
  ⟨lv, fun c L q gs tk post => Cl.mk c L = cl (view c L gs) ∧ ok (view c L gs) q gs tk post⟩
theorem mkC_by {w : World} {V : Vol} {lv : Nat} {X : Type} {view : Code → List (Nat × Obj) → List (Nat × Code) → X} {cl : X → Cl} {ok : X → List (Nat × Obj) → List (Nat × Code) → Nat → Post → Prop}
    (H : ∀ (x : X) q gs tk post, ok x q gs tk post → ∀ A Q h g d os, Room lv A → Have w.params V h g (cl x).L q gs →
      (∀ r tk' L' ns nq h' g', post r tk' L' ns nq → After V h (cl x).L q h' g' L' ns nq → Q r ⟨h', g', d, tk', os⟩) → codeAny (model PW w) A (cl x).c Q ⟨h, g, d, tk, os⟩) : CtOk w V (mkC lv view cl ok) := by
  intro c L q gs tk post hp A Q h g d os hr hH hQ
  obtain ⟨e, hp⟩ := hp
  change Cl.mk c L = cl (view c L gs) at e
  change ok (view c L gs) q gs tk post at hp
  have e1 : c = (cl (view c L gs)).c := congrArg Cl.c e
  have e2 : L = (cl (view c L gs)).L := congrArg Cl.L e
  generalize view c L gs = x at *
  subst e1 e2
  exact H x q gs tk post hp A Q h g d os hr hH hQ
theorem mkC_ok {w : World} {V : Vol} {lv : Nat} {X : Type} {view : Code → List (Nat × Obj) → List (Nat × Code) → X} {cl : X → Cl} {ok : X → List (Nat × Obj) → List (Nat × Code) → Nat → Post → Prop} (lim : Nat) (hl : Nat.ble lim lv = true)
    (H : ∀ (x : X) q gs tk post, ok x q gs tk post → ∀ n gz, Runs w V lim (cl x).c (cl x).L q gs tk n gz post) : CtOk w V (mkC lv view cl ok) :=
  mkC_by fun x q gs tk post hp A Q h g d os hr hH hQ => by
    obtain ⟨hk, hc, hs, sl, sq, j, z⟩ := H x q gs tk post hp (h.objs.size - 247) g.size
    have hl' := Nat.le_of_ble_eq_true hl
    exact start_ok hH.top (by have := hr.depth; omega) (run_mn (w := w) (V := V) hl' hc hk hr hH hQ z)
noncomputable def vA : Value → Nat
  | .ref a => a - 247
  | _ => 0
noncomputable def vI : Value → Int
  | .int i _ => i
  | _ => 0
noncomputable def vT : Value → Nat
  | .int _ t => t
  | .str _ t => t
  | _ => 0
noncomputable def vS : Value → Str
  | .str s _ => s
  | _ => ⟨#[]⟩
noncomputable def cPos : Code → List Value
  | .call _ a => a.pos
  | .builtin _ a => a.pos
  | _ => []
noncomputable def atV : List Value → Nat → Value
  | [], _ => .none
  | v :: _, 0 => v
  | _ :: l, k + 1 => atV l k
noncomputable def arg (c : Code) (k : Nat) : Value := atV (cPos c) k
noncomputable def frO : Obj := { cls := .none, data := .freed }
noncomputable def atO : List (Nat × Obj) → Nat → Nat × Obj
  | [], _ => (0, frO)
  | p :: _, 0 => p
  | _ :: l, k + 1 => atO l k
noncomputable def lA (L : List (Nat × Obj)) (k : Nat) : Nat := (atO L k).1 - 247
noncomputable def lO (L : List (Nat × Obj)) (k : Nat) : Obj := (atO L k).2
noncomputable def oSeq (o : Obj) : Array Value := match o.data with
  | .seq xs _ => xs
  | _ => #[]
noncomputable def oEp (o : Obj) : Nat := match o.data with
  | .seq _ n => n
  | .dict _ n => n
  | _ => 0
noncomputable def oDic (o : Obj) : Nat := match o.dict with
  | some a => a - 247
  | none => 0
noncomputable def oFld (o : Obj) : List Value := match o.data with
  | .fields vs => vs.toList
  | .seq xs _ => xs.toList
  | _ => []
noncomputable def atE : List DictEntry → Nat → DictEntry
  | [], _ => ⟨0, .none, .none⟩
  | p :: _, 0 => p
  | _ :: l, k + 1 => atE l k
noncomputable def oEnt (o : Obj) (k : Nat) : DictEntry := match o.data with
  | .dict es _ => atE es.toList k
  | _ => ⟨0, .none, .none⟩
noncomputable def eV (o : Obj) (k : Nat) : Value := (oEnt o k).val
noncomputable def eT (o : Obj) (k : Nat) : Nat := vT (oEnt o k).key
end Mine

namespace Mine
open PySem PySem.W PySem.W.X
noncomputable def eZ (P : Params) (n : String) (t : Tok) (v : Value) : DictEntry := ⟨condFn Int (S n).cps.isEmpty 0 (PySem.W.ZFast.zw12210062019545310541 (P.strHash (S n).cps)), .str (S n) t, v⟩
noncomputable def accO (d : Addr) (items : Array Value) (ep : Nat) : Obj := { cls := .ref 217, dict := some d, data := .seq items ep }
noncomputable def accD (P : Params) (kt : Nat) (iv : Int) (it : Nat) : Obj := { cls := .type "dict", data := .dict #[eZ P "_initial_size" kt (.int iv it)] 1 }
noncomputable def tupO (vs : List Value) : Obj := { cls := .type "tuple", data := .seq vs.toArray 0 }
noncomputable def lstO (vs : Array Value) (ep : Nat) : Obj := { cls := .type "list", data := .seq vs ep }
noncomputable def vfO (d : Addr) : Obj := { cls := .ref 133, dict := some d }
noncomputable def vfD (P : Params) (τ : Nat → Nat) (mx : Int) (sc : Str) (l a : Addr) : Obj :=
  { cls := .type "dict", data := .dict #[eZ P "_maxlen" (τ 0) (.int mx (τ 1)), eZ P "_continuation_ws" (τ 2) (.str (S " ") (τ 3)), eZ P "_continuation_ws_len" (τ 4) (.int 1 (τ 5)),
    eZ P "_splitchars" (τ 6) (.str sc (τ 7)), eZ P "_lines" (τ 8) (.ref l), eZ P "_current_line" (τ 9) (.ref a)] 6 }
section
variable {P : Params} {V : Vol} {h : Heap} {g : Array GenState} {L q : List (Nat × Obj)} {gs : List (Nat × Code)}
theorem Have.same (H : Have P V h g L q gs) : After V h L q h g (L.map Prod.snd) [] [] :=
  ⟨by simp, fun i p o e1 e2 _ => by rw [List.getElem?_map, e1] at e2; cases e2; exact H.has p (List.mem_of_getElem? e1), fun p hp => (nomatch hp), List.nodup_nil, fun p hp => (nomatch hp), fun b o e _ _ => e, Nat.le_refl _, H.inv⟩
theorem Have.upd {a : Nat} {o : Obj} {L0 : List (Nat × Obj)} (H : Have P V h g ((a, o) :: L0) q gs) {f : Obj → Obj} (hf : (f o).isFreed = false) : After V h ((a, o) :: L0) q (h.update a f) g (f o :: L0.map Prod.snd) [] [] := by
  have ho := H.has (a, o) (List.mem_cons_self ..)
  have hs : Heap.SameBut a h (h.update a f) := Heap.SameBut.update ..
  have ge : (h.update a f).get? a = some (f o) := by first | exact Heap.get?_update_self f ho hf | exact Heap.get?_update_self _ ho hf
  have nd := H.nodup
  rw [List.map_cons, List.nodup_cons] at nd
  refine ⟨by simp, fun i p o' e1 e2 _ => ?_, fun p hp => (nomatch hp), List.nodup_nil, fun p hp => (nomatch hp), fun b o' e _ hb => ?_, by rw [hs.1]; exact Nat.le_refl _, H.inv.same fun b hb o' e => ?_⟩
  · cases i with
    | zero => cases e1; cases e2; exact ge
    | succ i =>
      have e1' : L0[i]? = some p := e1
      have e2' : (L0.map Prod.snd)[i]? = some o' := e2
      rw [List.getElem?_map, e1'] at e2'
      cases e2'
      have hp := List.mem_of_getElem? e1'
      refine (hs.2 _ fun x => nd.1 ?_).trans (H.has p (List.mem_cons_of_mem _ hp))
      have := List.mem_map_of_mem (f := Prod.fst) hp
      rw [x] at this
      exact this
  · exact (hs.2 b fun x => hb (x ▸ List.mem_cons_self ..)).trans e
  · exact (hs.2 b fun x => (H.apart (a, o) (List.mem_cons_self ..)).2 (x ▸ hb)).trans e
theorem Have.push (H : Have P V h g L q gs) {o : Obj} (hf : o.isFreed = false) : After V h L q (h.push o) g (L.map Prod.snd) [(h.objs.size, o)] [] :=
  ⟨by simp, fun i p o' e1 e2 _ => by rw [List.getElem?_map, e1] at e2; cases e2; exact Heap.get?_push_of_some _ (H.has p (List.mem_of_getElem? e1)),
    fun p hp => by rw [List.mem_singleton.mp hp]; exact ⟨Heap.get?_push_size _ hf, Nat.le_refl _⟩, by simp, fun p hp => (nomatch hp), fun b o' e _ _ => Heap.get?_push_of_some _ e, by rw [Heap.size_push]; omega, H.inv.same fun a _ o' e => Heap.get?_push_of_some _ e⟩
end

noncomputable def biA (n : Nat) (c : Code) : Option (List Value) := match c with
  | .builtin id args => match Nat.beq (PySem.code id) n with
    | true => match args with
      | ⟨pos, kw⟩ => match kw with
        | [] => some pos
        | _ => none
    | false => none
  | _ => none
theorem biA_eq {n : Nat} {s : String} {c : Code} {l : List Value} (h : biA n c = some l) (hs : PySem.code s = n) : c = .builtin s ⟨l, []⟩ := by
  unfold biA at h
  split at h
  · rename_i id args
    split at h
    · rename_i hb
      split at h
      split at h
      · cases h
        rw [PySem.code_inj id s ((Nat.eq_of_beq_eq_true hb).trans hs.symm)]
      · cases h
    · cases h
  · cases h

section
variable {α : Type}
noncomputable def k0 (l : List α) (K : Prop) : Prop := match l with
  | [] => K
  | _ => False
noncomputable def kc (l : List α) (K : α → List α → Prop) : Prop := match l with
  | a :: l => K a l
  | [] => False
theorem k0_e {l : List α} {K : Prop} (h : k0 l K) : l = [] ∧ K := by
  cases l with
  | nil => exact ⟨rfl, h⟩
  | cons a l => exact h.elim
theorem kc_e {l : List α} {K : α → List α → Prop} (h : kc l K) : ∃ a l', l = a :: l' ∧ K a l' := by
  cases l with
  | nil => exact h.elim
  | cons a l => exact ⟨a, l, rfl, h⟩
noncomputable def k1 (l : List α) (K : α → Prop) : Prop := kc l fun a l => k0 l (K a)
noncomputable def k2 (l : List α) (K : α → α → Prop) : Prop := kc l fun a l => k1 l (K a)
noncomputable def k3 (l : List α) (K : α → α → α → Prop) : Prop := kc l fun a l => k2 l (K a)
theorem k1_e {l : List α} {K : α → Prop} (h : k1 l K) : ∃ a, l = [a] ∧ K a := by
  obtain ⟨a, l, rfl, h⟩ := kc_e h
  obtain ⟨rfl, h⟩ := k0_e h
  exact ⟨a, rfl, h⟩
theorem k2_e {l : List α} {K : α → α → Prop} (h : k2 l K) : ∃ a b, l = [a, b] ∧ K a b := by
  obtain ⟨a, l, rfl, h⟩ := kc_e h
  obtain ⟨b, rfl, h⟩ := k1_e h
  exact ⟨a, b, rfl, h⟩
theorem k3_e {l : List α} {K : α → α → α → Prop} (h : k3 l K) : ∃ a b c, l = [a, b, c] ∧ K a b c := by
  obtain ⟨a, l, rfl, h⟩ := kc_e h
  obtain ⟨b, c, rfl, h⟩ := k2_e h
  exact ⟨a, b, c, rfl, h⟩
end
noncomputable def kO {α : Type} (x : Option α) (K : α → Prop) : Prop := match x with
  | some a => K a
  | none => False
theorem kO_e {α : Type} {x : Option α} {K : α → Prop} (h : kO x K) : ∃ a, x = some a ∧ K a := by
  cases x with
  | none => exact h.elim
  | some a => exact ⟨a, rfl, h⟩
noncomputable def kR (v : Value) (K : Nat → Prop) : Prop := match v with
  | .ref a => K a
  | _ => False
theorem kR_e {v : Value} {K : Nat → Prop} (h : kR v K) : ∃ a, v = .ref a ∧ K a := by
  cases v with
  | ref a => exact ⟨a, rfl, h⟩
  | _ => exact h.elim
noncomputable def kI (v : Value) (K : Int → Nat → Prop) : Prop := match v with
  | .int i t => K i t
  | _ => False
theorem kI_e {v : Value} {K : Int → Nat → Prop} (h : kI v K) : ∃ i t, v = .int i t ∧ K i t := by
  cases v with
  | int i t => exact ⟨i, t, rfl, h⟩
  | _ => exact h.elim
noncomputable def kS (v : Value) (K : Str → Nat → Prop) : Prop := match v with
  | .str i t => K i t
  | _ => False
theorem kS_e {v : Value} {K : Str → Nat → Prop} (h : kS v K) : ∃ i t, v = .str i t ∧ K i t := by
  cases v with
  | str i t => exact ⟨i, t, rfl, h⟩
  | _ => exact h.elim
noncomputable def kQ (o : Obj) (K : Array Value → (Array Value → Nat → Obj) → Prop) : Prop := match o with
  | ⟨c, d, .seq xs _, sl⟩ => K xs fun ys ep => ⟨c, d, .seq ys ep, sl⟩
  | _ => False
theorem kQ_e {o : Obj} {K : Array Value → (Array Value → Nat → Obj) → Prop} (h : kQ o K) : ∃ c d xs ep sl, o = ⟨c, d, .seq xs ep, sl⟩ ∧ K xs fun ys ep => ⟨c, d, .seq ys ep, sl⟩ := by
  obtain ⟨c, d, dt, sl⟩ := o
  cases dt with
  | seq xs ep => exact ⟨c, d, xs, ep, sl, rfl, h⟩
  | _ => exact h.elim
noncomputable def kB (n : Nat) (c : Code) (K : List Value → Prop) : Prop := kO (biA n c) K
theorem kB_e {n : Nat} {c : Code} {K : List Value → Prop} (s : String) (hs : PySem.code s = n) (h : kB n c K) : ∃ l, c = .builtin s ⟨l, []⟩ ∧ K l := by
  obtain ⟨l, e, h⟩ := kO_e h
  exact ⟨l, biA_eq e hs, h⟩
noncomputable def nSlice : Nat := 439771360628
noncomputable def partOf (v : Value) : Option (Option Int) := match v with
  | .none => some none
  | .int i _ => some (some i)
  | _ => none
theorem partOf_eq {v : Value} {x : Option Int} (h : partOf v = some x) : IsPart v x := by
  unfold partOf at h
  split at h
  · cases h; exact .none
  · cases h; exact .int _ _
  · cases h
noncomputable def sliceOf (o : Obj) : Option (Option Int × Option Int) := match o with
  | ⟨.type s, _, .fields ⟨[vl, vu, .none]⟩, _⟩ => match Nat.beq (PySem.code s) nSlice with
    | true => match partOf vl with
      | some lo => match partOf vu with
        | some hi => some (lo, hi)
        | none => none
      | none => none
    | false => none
  | _ => none
theorem sliceOf_eq {o : Obj} {lo hi : Option Int} (h : sliceOf o = some (lo, hi)) : o.cls = .type "slice" ∧ ∃ vl vu, o.data = .fields #[vl, vu, .none] ∧ IsPart vl lo ∧ IsPart vu hi := by
  unfold sliceOf at h
  split at h
  · split at h
    · rename_i hb
      split at h
      · rename_i hl
        split at h
        · rename_i hu
          cases h
          refine ⟨?_, _, _, rfl, partOf_eq hl, partOf_eq hu⟩
          rw [PySem.code_inj _ "slice" ((Nat.eq_of_beq_eq_true hb).trans (by decide +kernel))]
        · cases h
      · cases h
    · cases h
  · cases h


noncomputable def sR (n : Nat) (c : Code) (L : List (Nat × Obj)) (K : Nat → Array Value → (Array Value → Nat → Obj) → Prop) : Prop := kB n c fun l => k1 l fun va => kR va fun a => k1 L fun p => kQ p.2 fun xs F => p.1 = a ∧ K a xs F
noncomputable def sRV (n : Nat) (c : Code) (L : List (Nat × Obj)) (K : Nat → Value → Array Value → (Array Value → Nat → Obj) → Prop) : Prop := kB n c fun l => k2 l fun va v => kR va fun a => k1 L fun p => kQ p.2 fun xs F => p.1 = a ∧ K a v xs F
noncomputable def sRR (n : Nat) (c : Code) (L : List (Nat × Obj)) (K : Nat → Nat → Array Value → (Array Value → Nat → Obj) → Obj → Prop) : Prop := kB n c fun l => k2 l fun va vs => kR va fun a => kR vs fun s => k2 L fun p r => kQ p.2 fun xs F => p.1 = a ∧ r.1 = s ∧ K a s xs F r.2
noncomputable def seqO (k : Value × Option Addr × Nat × Array (Option Value)) (xs : Array Value) (ep : Nat) : Obj := ⟨k.1, k.2.1, .seq xs ep, k.2.2.2⟩
section
variable {n : Nat} {c : Code} {L : List (Nat × Obj)} (s : String) (hs : PySem.code s = n)
include hs
theorem sR_e {K : Nat → Array Value → (Array Value → Nat → Obj) → Prop} (h : sR n c L K) : ∃ a k xs, c = .builtin s ⟨[.ref a], []⟩ ∧ L = [(a, seqO k xs k.2.2.1)] ∧ K a xs (seqO k) := by
  have ⟨l, e0, h⟩ := kB_e s hs h
  have ⟨va, e1, h⟩ := k1_e h
  have ⟨a, e2, h⟩ := kR_e h
  have ⟨p, e3, h⟩ := k1_e h
  have ⟨cl, d, xs, ep, sl, e4, e5, h⟩ := kQ_e h
  exact ⟨_, ⟨cl, d, ep, sl⟩, _, by rw [e0, e1, e2], by rw [e3, ← e5]; exact congrArg (fun o => [(p.1, o)]) e4, h⟩
theorem sRV_e {K : Nat → Value → Array Value → (Array Value → Nat → Obj) → Prop} (h : sRV n c L K) : ∃ a v k xs, c = .builtin s ⟨[.ref a, v], []⟩ ∧ L = [(a, seqO k xs k.2.2.1)] ∧ K a v xs (seqO k) := by
  have ⟨l, e0, h⟩ := kB_e s hs h
  have ⟨va, v, e1, h⟩ := k2_e h
  have ⟨a, e2, h⟩ := kR_e h
  have ⟨p, e3, h⟩ := k1_e h
  have ⟨cl, d, xs, ep, sl, e4, e5, h⟩ := kQ_e h
  exact ⟨_, _, ⟨cl, d, ep, sl⟩, _, by rw [e0, e1, e2], by rw [e3, ← e5]; exact congrArg (fun o => [(p.1, o)]) e4, h⟩
theorem sRR_e {K : Nat → Nat → Array Value → (Array Value → Nat → Obj) → Obj → Prop} (h : sRR n c L K) : ∃ a b k xs o, c = .builtin s ⟨[.ref a, .ref b], []⟩ ∧ L = [(a, seqO k xs k.2.2.1), (b, o)] ∧ K a b xs (seqO k) o := by
  have ⟨l, e0, h⟩ := kB_e s hs h
  have ⟨va, v, e1, h⟩ := k2_e h
  have ⟨a, e2, h⟩ := kR_e h
  have ⟨b, e3, h⟩ := kR_e h
  have ⟨p, r, e4, h⟩ := k2_e h
  have ⟨cl, d, xs, ep, sl, e5, e6, e7, h⟩ := kQ_e h
  exact ⟨_, _, ⟨cl, d, ep, sl⟩, _, _, by rw [e0, e1, e2, e3], by rw [e4, ← e6, ← e7]; exact congrArg (fun o => [(p.1, o), r]) e5, h⟩
end
noncomputable def nApp : Nat := 122627580202994350266018413
noncomputable def nGet : Nat := 128106587276438692081757506308484131437
noncomputable def nSet : Nat := 128106587276438692082622197436939266669
noncomputable def nPop : Nat := 8174157772325415533
noncomputable def ctApp : Ct where
  lv := 4
  pre := fun c L q gs tk post => sRV nApp c L fun a v xs F => xs.size ≤ 1000000 ∧ ∀ ep' : Nat, post (.ok (.ret .none)) tk [F (xs.push v) ep'] [] []
theorem ctApp_ok (w : World) (V : Vol) : CtOk w V ctApp := by
  intro c L q gs tk post hp A Q h g d os hr H hQ
  dsimp only [ctApp] at hp
  replace hp := sRV_e "list.append" (by decide +kernel) hp
  obtain ⟨a', v, k, xs, rfl, rfl, hsz, hp⟩ := hp
  have ho := H.has _ (List.mem_cons_self ..)
  refine codeAny_builtin PySem.F.entry_list_append ?_
  show wpAny _ _ (updateSeq a' (·.push v) >>= fun _ => ret .none) _ _ _
  refine wpAny_bind ?_
  have h24 : sizeLine = 16777216 := rfl
  exact wpAny_updateSeq ho rfl (wpAny_pure (hQ _ _ _ _ _ _ _ (hp _) (H.upd (f := Obj.mapSeq (·.push v)) rfl))) (by omega) (by rw [Array.size_push]; omega)
noncomputable def AtI (xs : Array Value) (k : Int) (v : Value) : Prop := xs[k.toNat]? = some v
noncomputable def ctGet (v : Value) : Ct where
  lv := 4
  pre := fun c L q gs tk post => sRV nGet c L fun a vk xs F => kI vk fun k t => 0 ≤ k ∧ k < 1000000 ∧ AtI xs k v ∧ post (.ok (.ret v)) tk (L.map Prod.snd) [] []
theorem ctGet_ok (w : World) (V : Vol) (v : Value) : CtOk w V (ctGet v) := by
  intro c L q gs tk post hp A Q h g d os hr H hQ
  dsimp only [ctGet] at hp
  replace hp := sRV_e "list.__getitem__" (by decide +kernel) hp
  obtain ⟨a', vk, kk, xs, rfl, rfl, hp⟩ := hp
  replace hp := kI_e hp
  obtain ⟨k, t, rfl, h0, hk, hx, hp2⟩ := hp
  have ho := H.has _ (List.mem_cons_self ..)
  refine codeAny_builtin PySem.F.entry_list_getitem ?_
  show wpAny _ _ (Builtin.List.listSubscript? (.int k t) >>= _) _ _ _
  refine wpAny_bind (wpAny_listSubscript_int (fitsIndex_of h0 (by omega)) ?_)
  obtain ⟨j, rfl⟩ := Int.eq_ofNat_of_zero_le h0
  have hx' : xs[j]? = some v := hx
  show wpAny _ _ ((seqItemAt a' j >>= fun r => pure (r.map (j, ·))) >>= _) _ _ _
  refine wpAny_bind (wpAny_bind (wpAny_seqItemAt ho rfl (wpAny_pure ?_)))
  rw [hx']
  first
    | exact wpAny_bind (wpAny_pure (wpAny_pure (hQ _ _ _ _ _ _ _ hp2 H.same)))
    | exact wpAny_pure (hQ _ _ _ _ _ _ _ hp2 H.same)
noncomputable def ctSlice : Ct where
  lv := 4
  pre := fun c L q gs tk post => sRR nGet c L fun a s xs F so => kO (sliceOf so) fun b => xs.size ≤ 1000000 ∧ ∀ r : Nat, post (.ok (.ret (.ref (r + 247)))) tk (L.map Prod.snd) [(r + 247, lstO (slicePick xs b.1 b.2 none) 0)] []
theorem ctSlice_ok (w : World) (V : Vol) : CtOk w V ctSlice := by
  intro c L q gs tk post hp A Q h g d os hr H hQ
  dsimp only [ctSlice] at hp
  replace hp := sRR_e "list.__getitem__" (by decide +kernel) hp
  obtain ⟨a', s', kk, xs, so, rfl, rfl, hp⟩ := hp
  replace hp := kO_e hp
  obtain ⟨⟨lo, hi⟩, hso, hsz, hp⟩ := hp
  dsimp only at hp
  obtain ⟨hsc, vl, vu, hsd, pl, pu⟩ := sliceOf_eq hso
  have ho := H.has _ (List.mem_cons_self ..)
  have hs := H.has _ (List.mem_cons_of_mem _ (List.mem_cons_self ..))
  have h24 : sizeLine = 16777216 := rfl
  refine codeAny_builtin PySem.F.entry_list_getitem ?_
  have hTs : (⟨h, g, d, tk, os⟩ : Shared).TypeIs (.ref s') "slice" := ⟨_, hs, hsc⟩
  show wpAny _ _ (Builtin.List.listSubscript? (.ref s') >>= _) _ _ _
  refine wpAny_bind ?_
  unfold Builtin.List.listSubscript?
  refine wpAny_bind (wpAny_specialOf hTs slice_no_index ?_)
  simp only [Option.isNone_none, if_true]
  refine wpAny_pure ?_
  show wpAny _ _ (typeOf (.ref s') >>= _) _ _ _
  refine wpAny_bind (wpAny_typeOf hTs ?_)
  rw [if_neg (by decide)]
  rw [listSliceParts_eq]
  refine wpAny_bind (wpAny_bind (wpAny_field hs hsd (x := .none) rfl (wpAny_bind (wpAny_listPart .none ?_))))
  rw [if_neg (by decide)]
  refine wpAny_bind (wpAny_field hs hsd (x := vl) rfl (wpAny_bind (wpAny_listPart pl ?_)))
  refine wpAny_bind (wpAny_field hs hsd (x := vu) rfl (wpAny_bind (wpAny_listPart pu (wpAny_pure ?_))))
  refine wpAny_bind (m := Builtin.List.listItems (.ref a')) ?_
  unfold Builtin.List.listItems
  refine wpAny_bind (wpAny_seqItems ho rfl (wpAny_pure ?_))
  refine wpAny_bind (wpAny_of_eq (sliceIndices_raw lo hi none xs.size (by simp)) ?_)
  have hr' := hp (h.objs.size - 247)
  rw [Nat.sub_add_cancel H.big] at hr'
  exact wpAny_bind (wpAny_newObj_type (wpAny_pure (hQ _ _ _ _ _ _ _ hr' (H.push rfl))) (Nat.le_trans (slicePick_size_le xs lo hi none) (by omega)))
noncomputable def nList : Nat := 1970563693
noncomputable def lstV (o : Obj) : Option (Array Value) := match o with
  | ⟨.type t, _, .seq ys _, _⟩ => match Nat.beq (PySem.code t) nList with
    | true => some ys
    | false => none
  | _ => none
theorem lstV_eq {o : Obj} {ys : Array Value} (h : lstV o = some ys) : ∃ d ep sl, o = ⟨.type "list", d, .seq ys ep, sl⟩ := by
  unfold lstV at h
  split at h
  · rename_i t d _ ep sl
    cases hb : Nat.beq (PySem.code t) nList with
    | false => rw [hb] at h; cases h
    | true =>
      rw [hb] at h
      cases h
      rw [PySem.code_inj t "list" ((Nat.eq_of_beq_eq_true hb).trans (by decide +kernel))]
      exact ⟨_, _, _, rfl⟩
  · cases h
noncomputable def cutIn (xs : Array Value) (lo hi : Option Int) (ys : Array Value) : Array Value :=
  xs.extract 0 (sliceBounds lo hi none xs.size).1.toNat ++ ys ++ xs.extract (max (sliceBounds lo hi none xs.size).1 (sliceBounds lo hi none xs.size).2.1).toNat xs.size
noncomputable def ctSetS : Ct where
  lv := 4
  pre := fun c L q gs tk post => kB nSet c fun l => k3 l fun va vs vb => kR va fun a => kR vs fun s => kR vb fun b => k3 L fun p ps pb => kQ p.2 fun xs F => kO (sliceOf ps.2) fun x => kO (lstV pb.2) fun y =>
    p.1 = a ∧ ps.1 = s ∧ pb.1 = b ∧ xs.size ≤ 1000000 ∧ y.size ≤ 1000000 ∧ ∀ ep' : Nat, post (.ok (.ret .none)) tk [F (cutIn xs x.1 x.2 y) ep', ps.2, pb.2] [] []
theorem ctSetS_e {c : Code} {L q : List (Nat × Obj)} {gs : List (Nat × Code)} {tk : Nat} {post : Post} (hp : ctSetS.pre c L q gs tk post) :
    ∃ a s b k xs so bo lo hi ys, c = .builtin "list.__setitem__" ⟨[.ref a, .ref s, .ref b], []⟩ ∧ L = [(a, seqO k xs k.2.2.1), (s, so), (b, bo)] ∧ sliceOf so = some (lo, hi) ∧ lstV bo = some ys ∧ xs.size ≤ 1000000 ∧ ys.size ≤ 1000000 ∧ ∀ ep' : Nat, post (.ok (.ret .none)) tk [seqO k (cutIn xs lo hi ys) ep', so, bo] [] [] := by
  have ⟨l, e0, h⟩ := kB_e "list.__setitem__" (by decide +kernel) hp
  have ⟨va, vs, vb, e1, h⟩ := k3_e h
  have ⟨a, e2, h⟩ := kR_e h
  have ⟨s, e3, h⟩ := kR_e h
  have ⟨b, e4, h⟩ := kR_e h
  have ⟨p, ps, pb, e5, h⟩ := k3_e h
  have ⟨cl, dd, xs, ep, sl, e6, h⟩ := kQ_e h
  have ⟨x, hso, h⟩ := kO_e h
  have ⟨ys, hbo, e7, e8, e9, hsz, hsy, h⟩ := kO_e h
  exact ⟨_, _, _, ⟨cl, dd, ep, sl⟩, _, _, _, _, _, _, by rw [e0, e1, e2, e3, e4], by rw [e5, ← e7, ← e8, ← e9]; exact congrArg (fun o => [(p.1, o), ps, pb]) e6, hso, hbo, hsz, hsy, h⟩
theorem ctSetS_ok (w : World) (V : Vol) : CtOk w V ctSetS := by
  intro c L q gs tk post hp A Q h g d os hr H hQ
  replace hp := ctSetS_e hp
  obtain ⟨a', s', b', k, xs, so, bo, lo, hi, ys, rfl, rfl, hso, hbo, hsz, hsy, hp⟩ := hp
  replace hbo := lstV_eq hbo
  obtain ⟨db, epb, sb, rfl⟩ := hbo
  obtain ⟨hsc, vl, vu, hsd, pl, pu⟩ := sliceOf_eq hso
  have ho := H.has _ (List.mem_cons_self ..)
  have hs := H.has _ (List.mem_cons_of_mem _ (List.mem_cons_self ..))
  have hb := H.has _ (List.mem_cons_of_mem _ (List.mem_cons_of_mem _ (List.mem_cons_self ..)))
  have hab : a' ≠ b' := by
    have nd := H.nodup
    simp only [List.map_cons, List.nodup_cons, List.mem_cons, not_or] at nd
    exact nd.1.2.1
  have h24 : sizeLine = 16777216 := rfl
  refine codeAny_builtin PySem.F.entry_list_setitem ?_
  have hTs : (⟨h, g, d, tk, os⟩ : Shared).TypeIs (.ref s') "slice" := ⟨_, hs, hsc⟩
  have hTb : (⟨h, g, d, tk, os⟩ : Shared).TypeIs (.ref b') "list" := ⟨_, hb, rfl⟩
  show wpAny _ _ (Builtin.List.listSubscript? (.ref s') >>= _) _ _ _
  refine wpAny_bind ?_
  unfold Builtin.List.listSubscript?
  refine wpAny_bind (wpAny_specialOf hTs slice_no_index ?_)
  simp only [Option.isNone_none, if_true]
  refine wpAny_pure ?_
  show wpAny _ _ (typeOf (.ref s') >>= _) _ _ _
  refine wpAny_bind (wpAny_typeOf hTs ?_)
  rw [if_neg (by decide)]
  rw [listSliceParts_eq]
  refine wpAny_bind (wpAny_bind (wpAny_field hs hsd (x := .none) rfl (wpAny_bind (wpAny_listPart .none ?_))))
  rw [if_neg (by decide)]
  refine wpAny_bind (wpAny_field hs hsd (x := vl) rfl (wpAny_bind (wpAny_listPart pl ?_)))
  refine wpAny_bind (wpAny_field hs hsd (x := vu) rfl (wpAny_bind (wpAny_listPart pu (wpAny_pure ?_))))
  have hne : (Builtin.List.listSameRef (.ref a') (.ref b')) = false := by
    show (a' == b') = false
    simpa using hab
  simp only [hne, Bool.false_eq_true, if_false]
  unfold Builtin.List.listAllItems
  refine wpAny_bind (wpAny_bind (wpAny_typeOf hTb ?_))
  rw [if_pos (by decide)]
  unfold Builtin.List.listItems
  refine wpAny_bind (wpAny_seqItems hb rfl (wpAny_pure ?_))
  refine wpAny_bind (wpAny_bind (wpAny_seqItems ho rfl (wpAny_pure ?_)))
  refine wpAny_bind (wpAny_of_eq (sliceIndices_raw lo hi none xs.size (by simp)) ?_)
  have hst : ((sliceBounds lo hi none xs.size).2.2 == 1) = true := by simp [sliceBounds]
  rw [if_pos hst]
  refine wpAny_bind (wpAny_rule ?_)
  have hl : Builtin.List.listTooLong (xs.size + ys.size) = false := by
    unfold Builtin.List.listTooLong
    simp only [decide_eq_false_iff_not]
    omega
  rw [if_neg (by rw [hl]; exact Bool.false_ne_true)]
  refine wpAny_bind (m := Builtin.List.listUpdate (.ref a') _) ?_
  show wpAny _ _ (updateSeq a' _) _ _ _
  refine wpAny_updateSeq ho rfl (wpAny_bind (wpAny_letGo (wpAny_pure (hQ _ _ _ _ _ _ _ (hp _) (H.upd (f := Obj.mapSeq fun xs' => xs'.extract 0 (sliceBounds lo hi none xs.size).1.toNat ++ ys ++ xs'.extract (max (sliceBounds lo hi none xs.size).1 (sliceBounds lo hi none xs.size).2.1).toNat xs'.size) rfl))))) (by omega) ?_
  simp only [Array.size_append, Array.size_extract]
  omega
noncomputable def ctPop (ys : Array Value) (v : Value) : Ct where
  lv := 4
  pre := fun c L q gs tk post => sR nPop c L fun a xs F => xs = ys.push v ∧ ys.size ≤ 1000000 ∧ ∀ ep' : Nat, post (.ok (.ret v)) tk [F ys ep'] [] []
theorem ctPop_ok (w : World) (V : Vol) (ys : Array Value) (v : Value) : CtOk w V (ctPop ys v) := by
  intro c L q gs tk post hp A Q h g d os hr H hQ
  dsimp only [ctPop] at hp
  replace hp := sR_e "list.pop" (by decide +kernel) hp
  obtain ⟨a', k, xs, rfl, rfl, rfl, hsz, hp⟩ := hp
  have ho := H.has _ (List.mem_cons_self ..)
  refine codeAny_builtin PySem.F.entry_list_pop ?_
  have h24 : sizeLine = 16777216 := rfl
  unfold Builtin.«list.pop»
  show wpAny _ _ (Builtin.List.listItems (.ref a') >>= _) _ _ _
  refine wpAny_bind ?_
  unfold Builtin.List.listItems
  refine wpAny_bind (wpAny_seqItems ho rfl (wpAny_pure ?_))
  have h1 : (ys.push v).isEmpty = false := by simp
  have h2 : seqIndex? (-1) (ys.push v).size = some ys.size := by
    unfold seqIndex?
    rw [Array.size_push]
    have : (-1 : Int) + ((ys.size + 1 : Nat) : Int) = (ys.size : Int) := by omega
    simp only [show ((-1 : Int) < 0) = True from by simp, if_true, this]
    simp
    omega
  have h3 : (ys.push v)[ys.size]? = some v := by simp
  simp only [h1, Bool.false_eq_true, if_false, h2, Option.bind_some, h3, Option.map_some]
  refine wpAny_bind (m := Builtin.List.listUpdate (.ref a') _) ?_
  show wpAny _ _ (updateSeq a' _) _ _ _
  have he : (ys.push v).eraseIdxIfInBounds ys.size = ys := by
    unfold Array.eraseIdxIfInBounds
    rw [dif_pos (by simp)]
    apply Array.ext'
    simp only [Array.toList_eraseIdx, Array.toList_push]
    rw [List.eraseIdx_append_of_length_le (by simp)]
    simp
  have z := H.upd (f := Obj.mapSeq fun xs' => xs'.eraseIdxIfInBounds ys.size) rfl
  have e : ∃ e', Obj.mapSeq (fun xs' => xs'.eraseIdxIfInBounds ys.size) (seqO k (ys.push v) k.2.2.1) = seqO k ys e' := by
    have := congrArg (fun z : Array Value => Obj.mapSeq (fun _ => z) (seqO k (ys.push v) k.2.2.1)) he
    exact ⟨_, this⟩
  obtain ⟨e', e⟩ := e
  rw [e] at z
  refine wpAny_updateSeq ho rfl (wpAny_pure (hQ _ _ _ _ _ _ _ (hp _) z)) (by rw [Array.size_push]; omega) ?_
  show ((ys.push v).eraseIdxIfInBounds ys.size).size ≤ _
  rw [he]
  omega
end Mine

set_option genInjectivity false
set_option genSizeOf false
namespace Mine
open PySem PySem.W PySem.W.X
noncomputable section
structure Ac where
  a : Nat
  d : Nat
  xs : Array Value
  ep : Nat
  kt : Nat
  iv : Int
  it : Nat
noncomputable def acL (P : Params) (x : Ac) : List (Nat × Obj) := [(x.a + 247, accO (x.d + 247) x.xs x.ep), (x.d + 247, accD P x.kt x.iv x.it)]
noncomputable def acS (L : List (Nat × Obj)) : Ac := ⟨lA L 0, lA L 1, oSeq (lO L 0), oEp (lO L 0), eT (lO L 1) 0, vI (eV (lO L 1) 0), vT (eV (lO L 1) 0)⟩
noncomputable def ap (P : Params) (x : Ac) (xs : Array Value) (ep : Nat) : List Obj := [accO (x.d + 247) xs ep, accD P x.kt x.iv x.it]
noncomputable def acC (P : Params) (f : Nat) (x : Ac) (l : List Value) (L : List (Nat × Obj)) : Cl := ⟨.call (.ref f) ⟨.ref (x.a + 247) :: l, []⟩, acL P x ++ L⟩
noncomputable def tup2 (f : Str) (ft : Nat) (p : Str) (pt : Nat) : Obj := tupO [.str f ft, .str p pt]
theorem m6 {n k : Nat} (h : n ≤ k) (hk : Nat.ble k 1000000 = true) : n ≤ 1000000 := Nat.le_trans h (Nat.le_of_ble_eq_true hk)
noncomputable def puC (P : Params) (x : Ac × Str × Nat × Str × Nat) : Cl := acC P 161 x.1 [.str x.2.1 x.2.2.1, .str x.2.2.2.1 x.2.2.2.2] []
noncomputable def ctPush (P : Params) : Ct := mkC 30 (fun c L _ => (acS L, vS (arg c 1), vT (arg c 1), vS (arg c 2), vT (arg c 2))) (puC P) fun x q gs tk post =>
  x.1.xs.size ≤ 100000 ∧ ∀ tk' ep' t : Nat, post (.ok (.ret .none)) tk' (ap P x.1 (x.1.xs.push (.ref (t + 247))) ep') [] [(t + 247, tup2 x.2.1 x.2.2.1 x.2.2.2.1 x.2.2.2.2)]
theorem ctPush_ok (w : World) (V : Vol) : CtOk w V (ctPush w.params) := mkC_ok 20 rfl fun x q gs tk post h n gz => by
  have h1 := m6 h.1 rfl
  have h2 := h.2
  exact .go sub0 (c1 (ctApp_ok w V)) [0,4,4,4,4,4,4,0,0,4,2,0,0,0,2,0,0,0,2,0,0,0,2,3,4,4,0,2,0,2,0,1,0] [] [3] 0 (by kernel_rfl) (ai (r7 [x.fst.1,n,n,x.fst.2,x.fst.1,x.fst.1,x.fst.1,x.fst.1,n,n,n,n,n,n,n]) (ai (rf (x.fst.1 + 247)) (ai h1 (fun (ep' : Nat) (n' : Nat) => fun (gz' : Nat) => ai (r7 []) (h2 (tk + 3) ep' (n + 1))))))
noncomputable def pfC (P : Params) (x : Ac × Int × Nat) : Cl := acC P 169 x.1 [.int x.2.1 x.2.2] []
noncomputable def ctPopFrom (P : Params) : Ct := mkC 30 (fun c L _ => (acS L, vI (arg c 1), vT (arg c 1))) (pfC P) fun x q gs tk post =>
  x.1.xs.size ≤ 100000 ∧ ∀ tk' ep' r epr : Nat, post (.ok (.ret (.ref (r + 247)))) tk' (ap P x.1 (cutIn x.1.xs (some x.2.1) none #[]) ep') [(r + 247, lstO (slicePick x.1.xs (some x.2.1) none none) epr)] []
theorem ctPopFrom_ok (w : World) (V : Vol) : CtOk w V (ctPopFrom w.params) := mkC_ok 20 rfl fun x q gs tk post h n gz => by
  have h1 := m6 h.1 rfl
  have h2 := h.2
  have h0 := Nat.zero_le 1000000
  exact .go sub0 (cC (ctSlice_ok w V) (c1 (ctSetS_ok w V))) [0,0,4,4,4,4,0,0,4,4,2,0,0,0,2,0,2,0,0,0,0,2,0,2,0,2,0,3,4,4,4,4,2,0,2,0,0,0,0,2,0,2,1,3,0,6,5,4] [4] [] 0 (by kernel_rfl) (ai (r7 [x.fst.1,x.fst.1,x.fst.1,x.fst.1,n,n,n,n,n,n]) (ai (rf (x.fst.1 + 247)) (ai (rf (n + 248)) (ai h1 (fun (r : Nat) (n' : Nat) => fun (gz' : Nat) => ai (r7 [x.fst.1,x.fst.1,x.fst.1,n,n,n,n]) (ai (rf (x.fst.1 + 247)) (ai (rf (n' + 248)) (ai (rf (n' + 247)) (ai h1 (ai h0 (fun (ep' : Nat) (n'1 : Nat) => fun (gz'1 : Nat) => ai (r7 [n]) (h2 (tk + 3) ep' r 0))))))))))))
noncomputable def rsC (P : Params) (x : Ac × Nat × Array Value × Nat) : Cl := acC P 199 x.1 [.ref (x.2.1 + 247)] [(x.2.1 + 247, lstO x.2.2.1 x.2.2.2)]
noncomputable def ctReset1 (P : Params) : Ct := mkC 30 (fun c L _ => (acS L, lA L 2, oSeq (lO L 2), oEp (lO L 2))) (rsC P) fun x q gs tk post =>
  x.1.xs.size ≤ 100000 ∧ x.2.2.1.size ≤ 100000 ∧ ∀ tk' ep' t' : Nat, post (.ok (.ret .none)) tk' [accO (x.1.d + 247) (cutIn x.1.xs none none x.2.2.1) ep', accD P x.1.kt 0 t', lstO x.2.2.1 x.2.2.2] [] []
theorem ctReset1_ok (w : World) (V : Vol) : CtOk w V (ctReset1 w.params) := mkC_ok 20 rfl fun x q gs tk post h n gz => by
  have h1 := m6 h.1 rfl
  have h2 := m6 h.2.1 rfl
  have h3 := h.2.2
  exact .go sub0 (c1 (ctSetS_ok w V)) [0,0,5,5,5,5,0,0,5,5,5,2,0,2,0,0,0,0,2,0,2,0,3,0,4,2,5,2,0,0,0,0,2,0,0,2,0,2,0,0,0,2,0,3,3,3] [] [] 0 (by kernel_rfl) (ai (r7 [x.fst.1,x.fst.1,x.fst.1,n,n,n,n,n,n,n]) (ai (rf (x.fst.1 + 247)) (ai (rf (n + 248)) (ai (rf (x.snd.1 + 247)) (ai h1 (ai h2 (fun (ep' : Nat) (n' : Nat) => fun (gz' : Nat) => ai (r7 [x.fst.2,x.fst.2,x.fst.2,x.fst.1,x.fst.1,x.fst.1,x.fst.1,x.fst.1,n]) (h3 (tk + 5) ep' (tk + 2)))))))))
theorem cut_all (xs ys : Array Value) : cutIn xs none none ys = ys := by
  unfold cutIn sliceBounds
  simp
noncomputable def ctReset0 (P : Params) : Ct := mkC 30 (fun c L _ => acS L) (fun x => acC P 199 x [] []) fun x q gs tk post =>
  x.xs.size ≤ 100000 ∧ ∀ tk' ep' t' : Nat, post (.ok (.ret .none)) tk' [accO (x.d + 247) #[] ep', accD P x.kt 0 t'] [] []
theorem ctReset0_ok (w : World) (V : Vol) : CtOk w V (ctReset0 w.params) := mkC_ok 20 rfl fun x q gs tk post h n gz => by
  have h1 := m6 h.1 rfl
  have h2 := h.2
  rw [← cut_all x.xs #[]] at h2
  have h0 := Nat.zero_le 1000000
  exact .go sub0 (c1 (ctSetS_ok w V)) [0,0,4,4,4,4,0,0,4,4,4,4,4,2,0,2,0,0,0,0,2,0,2,0,3,0,4,3,4,2,0,0,0,0,2,0,0,2,0,2,0,0,0,2,0,3,3,3] [] [] 0 (by kernel_rfl) (ai (r7 [x.1,x.1,x.1,n,n,n,n,n,n,n,n,n]) (ai (rf (x.1 + 247)) (ai (rf (n + 249)) (ai (rf (n + 248)) (ai h1 (ai h0 (fun (ep' : Nat) (n' : Nat) => fun (gz' : Nat) => ai (r7 [x.2,x.2,x.2,x.1,x.1,x.1,x.1,x.1,n]) (h2 (tk + 6) ep' (tk + 3)))))))))
end
end Mine

namespace Mine
open PySem PySem.W PySem.W.X
open Sem (wp)

noncomputable def SeqAt (h : Heap) (a : Addr) (items : Array Value) : Prop := ∃ o n, h.get? a = some o ∧ o.data = .seq items n
theorem SeqAt.at {h h' : Heap} {a : Addr} {items : Array Value} (x : SeqAt h a items) (e : ∀ o, h.get? a = some o → h'.get? a = some o) : SeqAt h' a items := let ⟨o, n, a, b⟩ := x; ⟨o, n, e o a, b⟩
section
variable {prog : Program} {w : World} {A : Around} {E : Value → Shared → Prop} {s : Shared}
theorem next_acc {it l : Addr} {i : Nat} {items : Array Value} {x : Value} {Q : Option Value → Shared → Prop} (hit : s.heap.IsListIter it l i) (hl : SeqAt s.heap l items) (hx : items[i]? = some x)
    (hQ : ∀ h', h'.IsListIter it l (i + 1) → Heap.SameBut it s.heap h' → Q (some x) { s with heap := h' }) : wpAny (model prog w) A (pyNext (.ref it)) Q E s := by
  obtain ⟨o, ho, hc, hd⟩ := id hit
  obtain ⟨ol, nl, hol, hdl⟩ := hl
  unfold pyNext
  refine wpAny_bind (wpAny_attempt (wpAny_callSpecial?_slot (name := Str.ofString "__next__") hit.typeIs slot_listiter_next (wpAny_call_entry slot_listiter_next hit.typeIs entry_listiter_next ?_ (args_listiter_next _))))
  show wpAny _ _ (field (.ref it) 0 >>= _) _ _ s
  refine wpAny_bind (wpAny_field ho hd (x := .ref l) rfl ?_)
  show wpAny _ _ (if (Value.ref l == Value.none) = true then _ else _) _ _ s
  rw [if_neg (show ¬ ((Value.ref l == Value.none) = true) from Bool.false_ne_true)]
  show wpAny _ _ (field (.ref it) 1 >>= _) _ _ s
  refine wpAny_bind (wpAny_field ho hd (x := .int i 0) rfl ?_)
  show wpAny _ _ (seqItems? (.ref l) >>= _) _ _ s
  refine wpAny_bind (wpAny_seqItems hol hdl ?_)
  simp only [Int.toNat_natCast, hx]
  refine wpAny_bind (wpAny_setField ho hd (by simp) (wpAny_pure ⟨x, rfl, wpAny_pure (hQ _ ?_ (Heap.SameBut.update ..))⟩))
  exact ⟨_, Heap.get?_update_self _ ho (Obj.isFreed_of_fields (Obj.data_mapFields hd _)), (Obj.cls_mapFields ..).trans hc, by
    rw [Obj.data_mapFields hd]; simp [rawInt]⟩
theorem end_acc {it l : Addr} {i : Nat} {items : Array Value} {Q : Option Value → Shared → Prop} (hh : A.handled = none) (hit : s.heap.IsListIter it l i) (hl : SeqAt s.heap l items) (hx : items[i]? = none)
    (hQ : ∀ h', Heap.ExtBut it s.heap h' → Q none { s with heap := h' }) : wpAny (model prog w) A (pyNext (.ref it)) Q E s := by
  obtain ⟨o, ho, hc, hd⟩ := id hit
  obtain ⟨ol, nl, hol, hdl⟩ := hl
  unfold pyNext
  refine wpAny_bind (wpAny_attempt (wpAny_callSpecial?_slot (name := Str.ofString "__next__") hit.typeIs slot_listiter_next (wpAny_call_entry slot_listiter_next hit.typeIs entry_listiter_next ?_ (args_listiter_next _))))
  show wpAny _ _ (field (.ref it) 0 >>= _) _ _ s
  refine wpAny_bind (wpAny_field ho hd (x := .ref l) rfl ?_)
  show wpAny _ _ (if (Value.ref l == Value.none) = true then _ else _) _ _ s
  rw [if_neg (show ¬ ((Value.ref l == Value.none) = true) from Bool.false_ne_true)]
  show wpAny _ _ (field (.ref it) 1 >>= _) _ _ s
  refine wpAny_bind (wpAny_field ho hd (x := .int i 0) rfl ?_)
  show wpAny _ _ (seqItems? (.ref l) >>= _) _ _ s
  refine wpAny_bind (wpAny_seqItems hol hdl ?_)
  simp only [Int.toNat_natCast, hx]
  refine wpAny_bind (wpAny_rule (wpAny_bind (wpAny_setField ho hd (by simp) ?_)))
  show wpAny _ _ (newExc (.type "StopIteration") [] >>= _) _ _ _
  refine wpAny_bind ?_
  simp only [newExc, newTuple]
  refine wpAny_bind (wpAny_newObj_type ?_ (by size_fits))
  refine wpAny_bind (m := firstArgMember _ _) (wpAny_of_eq (a := Value.none) (by first | rfl | (simp only [firstArgMember]; rfl)) ?_)
  refine wpAny_newObj_type ?_ (by size_fits)
  simp only [raiseNew]
  refine wpAny_bind (wpAny_handled ?_)
  rw [show A.in1.handled = none from hh]
  refine wpAny_bind (wpAny_pure (wpAny_throw ?_))
  refine wpAny_bind (wpAny_isInstance (T := "StopIteration") (b := true) ⟨_, Heap.get?_push_size _ rfl, rfl⟩ isSubtype_stop ?_)
  refine wpAny_pure (hQ _ fun b o' hb e => ?_)
  exact Heap.get?_push_of_some _ (Heap.get?_push_of_some _ ((Heap.get?_update_other _ _ (Ne.symm hb)).trans e))
end
theorem walksAcc {prog : Program} {w : World} {A : Around} (hh : A.handled = none) (I ax : Addr) (hne : ax ≠ I) (items : Array Value) (Ts : Nat → Addr) (vals : Nat → Array Value)
    (hit : ∀ j, j < items.size → items[j]? = some (.ref (Ts j))) (hTI : ∀ j, j < items.size → Ts j ≠ I) :
    WalksU prog w A I (I :: ax :: (List.range items.size).map Ts) [I] items.size (fun j v => j < items.size ∧ v = vals j)
      (fun j h => h.IsListIter I ax j ∧ SeqAt h ax items ∧ ∀ k, k < items.size → h.IsTuple (Ts k) (vals k))
      (fun j T h => (j < items.size ∧ T = Ts j) ∧ h.IsListIter I ax (j + 1) ∧ SeqAt h ax items ∧ ∀ k, k < items.size → h.IsTuple (Ts k) (vals k)) where
  sub := fun b hb => by simp at hb; simp [hb]
  frame := fun _ _ _ st hk => ⟨st.1.at fun o e => hk I (by simp) o e, st.2.1.at fun o e => hk ax (by simp) o e,
    fun k hk' => (st.2.2 k hk').at fun o e => hk (Ts k) (List.mem_cons_of_mem _ (List.mem_cons_of_mem _ (List.mem_map.mpr ⟨k, List.mem_range.mpr hk', rfl⟩))) o e⟩
  item := fun i s Q E hi st hQ => by
    refine next_acc st.1 st.2.1 (x := .ref (Ts i)) (hit i hi) fun h' hit' hs' => ?_
    have tup : ∀ k, k < items.size → h'.IsTuple (Ts k) (vals k) := fun k hk' => (st.2.2 k hk').extBut hs'.extBut (hTI k hk')
    exact hQ (Ts i) (vals i) h' s.toks ⟨hi, rfl⟩ (tup i hi) ⟨⟨hi, rfl⟩, hit', st.2.1.at fun o e => hs'.extBut _ o hne e, tup⟩ fun b o hb e => hs'.extBut b o (fun h => hb (by simp [h])) e
  go := fun _ _ _ _ _ s Q _ hm hQ => wpAny_letOwnedTupleGo_listiter hm.2.1 (hQ s.heap hm.2 fun _ _ _ e => e)
  apart := fun j T _ hm hmem => by
    rcases List.mem_cons.mp hmem with e | e
    · exact hTI j hm.1.1 (hm.1.2 ▸ e)
    · cases e
  done := fun s Q E st hQ => end_acc hh st.1 st.2.1 (by simp) fun h' he' => hQ h' s.toks fun b o hb e => he' b o (fun h => hb (by simp [h])) e
  self := fun _ _ _ _ st hQ => wpAny_pyIter_listiter st.1 hQ

structure Part where
  addr : Nat
  f : Str
  ft : Nat
  p : Str
  pt : Nat
noncomputable def Part.obj (x : Part) : Nat × Obj := (x.addr, tup2 x.f x.ft x.p x.pt)
noncomputable def itemsOf (ps : List Part) : Array Value := (ps.map fun x => Value.ref x.addr).toArray
noncomputable def total (ps : List Part) : Int := (ps.map fun x => ((x.f.length + x.p.length : Nat) : Int)).sum
noncomputable def textOf (ps : List Part) : Str := Txt.join Str.empty (ps.map fun x => x.f ++ x.p)
noncomputable def Small (ps : List Part) : Prop := ps.length ≤ 100 ∧ ∀ x ∈ ps, x.f.length ≤ 1000 ∧ x.p.length ≤ 1000
noncomputable def Known (ps : List Part) (q : List (Nat × Obj)) : Prop := ∀ x ∈ ps, x.obj ∈ q ∧ 247 ≤ x.addr
theorem ns_of {h : Heap} {a : Addr} {o : Obj} {es : Array DictEntry} {ep : Nat} (ho : h.get? a = some o) (hd : o.data = .dict es ep) (hs : StrKeys es) : h.Ns a (nsFind es) := ⟨o, es, ep, ho, hd, hs, fun _ => rfl⟩
end Mine

namespace Mine
open PySem PySem.W PySem.W.X
open Sem (wp)

noncomputable def lenScope : Scope := ⟨.function, [(S ".0", .local), (S "fws", .local), (S "part", .local), (S "len", .globalImplicit)], true, false, []⟩
noncomputable def lenElt : Expr := .BinOp (.Call (.Name (S "len") ⟨175, 20, 175, 23⟩) [.Name (S "fws") ⟨175, 24, 175, 27⟩] [] ⟨175, 20, 175, 28⟩) .Add (.Call (.Name (S "len") ⟨175, 31, 175, 34⟩) [.Name (S "part") ⟨175, 35, 175, 39⟩] [] ⟨175, 31, 175, 40⟩) ⟨175, 20, 175, 40⟩
noncomputable def genOf (elt : Expr) (l : Nat) (p1 p2 p3 p4 p5 : Pos) (sc : Scope) : Expr := .GeneratorExp elt [⟨.Tuple [.Name (S "fws") p1, .Name (S "part") p2] 0 p3, .Name (S "self") p4, [], 0⟩] sc p5
noncomputable def lenGen : Expr := genOf lenElt 175 ⟨175, 45, 175, 48⟩ ⟨175, 50, 175, 54⟩ ⟨175, 45, 175, 54⟩ ⟨175, 58, 175, 62⟩ ⟨175, 19, 175, 63⟩ lenScope
noncomputable def strScope : Scope := ⟨.function, [(S ".0", .local), (S "fws", .local), (S "part", .local), (S "EMPTYSTRING", .globalImplicit)], true, false, []⟩
noncomputable def strElt : Expr := .Call (.Attribute (.Name (S "EMPTYSTRING") ⟨178, 33, 178, 44⟩) (S "join") ⟨178, 33, 178, 49⟩) [.Tuple [.Name (S "fws") ⟨178, 51, 178, 54⟩, .Name (S "part") ⟨178, 56, 178, 60⟩] 0 ⟨178, 50, 178, 61⟩] [] ⟨178, 33, 178, 62⟩
noncomputable def strGen : Expr := genOf strElt 178 ⟨178, 67, 178, 70⟩ ⟨178, 72, 178, 76⟩ ⟨178, 67, 178, 76⟩ ⟨178, 80, 178, 84⟩ ⟨178, 32, 178, 85⟩ strScope

noncomputable def isKey (x : DictEntry) : Bool := match x.key with | .str _ _ => true | _ => false
theorem keys_of {es : Array DictEntry} (h : es.toList.all isKey = true) : StrKeys es := by
  intro x hx
  have := List.all_eq_true.mp h x (Array.mem_toList_iff.mpr hx)
  unfold isKey at this
  split at this
  · rename_i n t e; exact ⟨n, t, e⟩
  · cases this
noncomputable def esOf (o : Obj) : Array DictEntry := match o.data with | .dict es _ => es | _ => #[]
section
variable {P : Params} {h : Heap}
theorem ns_top {a : Nat} {o : Obj} (hd : ∃ ep, o.data = .dict (esOf o) ep) (ht : (top P).get a = some o) (hk : (esOf o).toList.all isKey = true) (H : ∀ a o, (top P).get a = some o → h.get? a = some o) : h.Ns a (nsFind (esOf o)) :=
  let ⟨_, e⟩ := hd; ns_of (H a o ht) e (keys_of hk)
theorem ns0 (H : ∀ a o, (top P).get a = some o → h.get? a = some o) : h.Ns 0 (nsFind (esOf (ob0 P))) := ns_top ⟨_, rfl⟩ rfl (by kernel_rfl) H
theorem ns2 (H : ∀ a o, (top P).get a = some o → h.get? a = some o) : h.Ns 2 (nsFind (esOf (ob2 P))) := ns_top ⟨_, rfl⟩ rfl (by kernel_rfl) H
theorem ns3 (H : ∀ a o, (top P).get a = some o → h.get? a = some o) : h.Ns 3 (nsFind (esOf (ob3 P))) := ns_top ⟨_, rfl⟩ rfl (by kernel_rfl) H
theorem find2 : nsFind (esOf (ob2 P)) "sys.recursionlimit" = none := by kernel_rfl
theorem find0 : nsFind (esOf (ob0 P)) (S "len") = some (.builtin "len") := by kernel_rfl
theorem find3 : nsFind (esOf (ob3 P)) (S "len") = none := by kernel_rfl
theorem find3e : nsFind (esOf (ob3 P)) (S "EMPTYSTRING") = some (.str (S "") 532) := by kernel_rfl
theorem nolimit (H : ∀ a o, (top P).get a = some o → h.get? a = some o) : h.NoLimit := ⟨_, ns2 H, find2⟩
end
section
variable {prog : Program} {w : World} {A : Around} {E : Value → Shared → Prop} {s : Shared} {P : Params}
theorem local_ok {env : Env} {x : Str} {pos : Pos} {m : Str → Option Value} {v : Value} {Q : Value → Shared → Prop} (hk : env.scope.kind = .function) (hl : env.kindOf x = some .local) (hn : s.heap.Ns env.locals m) (hv : m x = some v) (hd : (x == ("__debug__" : Str)) = false) (h : Q v s) :
    wpAny (model prog w) A (eval (.Name x pos) env) Q E s := wpAny_Name (wpAny_loadName_local hk hl hn hv h) hd
theorem lenCall {env : Env} {x : Str} {pl px pc : Pos} {m mg mb : Str → Option Value} {y : Str} {ty : Nat} {Q : Value → Shared → Prop} (hk : env.scope.kind = .function) (hkl : env.kindOf (S "len") = some .globalImplicit) (hl : env.kindOf x = some .local)
    (hg : s.heap.Ns env.globals mg) (hmiss : mg (S "len") = none) (hb : s.heap.Ns env.builtins mb) (hv : mb (S "len") = some (.builtin "len"))
    (hn : s.heap.Ns env.locals m) (hx : m x = some (.str y ty)) (hd : (x == ("__debug__" : Str)) = false) (hy : y.length ≤ 1000000) (h : ∀ t k, Q (.int y.length t) { s with toks := k }) :
    wpAny (model prog w) A (eval (.Call (.Name (S "len") pl) [.Name x px] [] pc) env) Q E s := by
  refine wpAny_Call_NameR (Calls.Name_function_global hk hkl (Calls.loadGlobal_builtin hg hmiss hb hv ?_))
  show wpAny _ _ (callWith pc (.builtin "len") [] [(false, eval (.Name x px) env)] []) _ _ _
  exact callWith_builtin1 (local_ok hk hl hn hx hd (P.len_str (by omega) (h _ _)))
end
end Mine

namespace Mine
open PySem PySem.W PySem.W.X
open Sem (wp)

noncomputable def valsOf (ps : List Part) (i : Nat) : Array Value := match ps[i]? with
  | some x => #[.str x.f x.ft, .str x.p x.pt]
  | none => #[.none, .none]
noncomputable def addrAt (ps : List Part) (i : Nat) : Nat := match ps[i]? with
  | some x => x.addr
  | none => 0
theorem itemsOf_size (ps : List Part) : (itemsOf ps).size = ps.length := by simp [itemsOf]
theorem itemsOf_get (ps : List Part) {i : Nat} (h : i < ps.length) : (itemsOf ps)[i]? = some (.ref (addrAt ps i)) := by
  unfold itemsOf addrAt
  rw [List.getElem?_eq_getElem h]
  simp [h]
theorem mem_addrs {ps : List Part} {i : Nat} (h : i < ps.length) : ∃ x ∈ ps, addrAt ps i = x.addr ∧ valsOf ps i = #[.str x.f x.ft, .str x.p x.pt] ∧ ps[i]? = some x :=
  ⟨ps[i], List.getElem_mem h, by unfold addrAt; rw [List.getElem?_eq_getElem h], by unfold valsOf; rw [List.getElem?_eq_getElem h], List.getElem?_eq_getElem h⟩
noncomputable def fpOf (ps : List Part) (I ax : Nat) : List Nat := 0 :: 2 :: 3 :: (I :: ax :: (List.range (itemsOf ps).size).map (addrAt ps))
theorem passing_all (n : Nat) : passing (fun _ => true) n 0 = List.range n := by
  unfold passing
  rw [List.drop_zero, List.filter_eq_self]
  intro _ _; rfl
section
variable {prog : Program} {w : World} {A : Around} {s : Shared} {P : Params}
theorem genAcc (hh : A.handled = none) (hroom : A.depth < recursionLimit) {ps : List Part} {I ax a C g : Nat} {elt : Expr} {l : Nat} {p1 p2 p3 p4 p5 : Pos} {sc : Scope} {cenv : Env} {m : Str → Option Value} {F : Nat → Value → Prop}
    (H : ∀ a o, (top P).get a = some o → s.heap.get? a = some o)
    (hgen : s.heap.IsGen a g) (hgs : s.gens[g]? = some (.fresh (.compStart (genOf elt l p1 p2 p3 p4 p5 sc) 0 (.ref I) .none cenv)))
    (hit : s.heap.IsListIter I ax 0) (hacc : SeqAt s.heap ax (itemsOf ps)) (htup : ∀ x ∈ ps, s.heap.IsTuple x.addr #[.str x.f x.ft, .str x.p x.pt])
    (hC : s.heap.Ns C m) (hl : cenv.locals = C) (hk : cenv.scope.kind = .function) (hf : cenv.kindOf (S "fws") = some .local) (hp : cenv.kindOf (S "part") = some .local) (hco : cenv.scope.isCoroutine = false)
    (haI : ax ≠ I) (hxI : ∀ x ∈ ps, x.addr ≠ I) (hCf : C ∉ fpOf ps I ax) (haf : a ∉ fpOf ps I ax) (haC : a ≠ C) (h2I : (2 : Nat) ≠ I)
    (hC2 : (2 : Nat) ≠ C)
    (helt : ∀ (A' : Around) E' i x (s₂ : Shared) m₂, ps[i]? = some x → s₂.heap.Ns C m₂ → m₂ (S "fws") = some (.str x.f x.ft) → m₂ (S "part") = some (.str x.p x.pt) → (∀ b ∈ fpOf ps I ax, b ∉ [I] → ∀ o, s.heap.get? b = some o → s₂.heap.get? b = some o) →
      wpAny (model prog w) A' (eval elt cenv) (fun y s₃ => F i y ∧ Keeps s₂ s₃) E' s₂) :
    WalksS prog w A a (a :: C :: fpOf ps I ax) (C :: [I]) (GenOnlyQ g) ps.length (fun j y => F j y) (GenAt prog w A a g C (fpOf ps I ax) [I] (fun _ => true) ps.length F) ∧
    GenAt prog w A a g C (fpOf ps I ax) [I] (fun _ => true) ps.length F 0 s := by
  subst hl
  have W₀ : ∀ A' : Around, A'.handled = none → WalksU prog w A' I (fpOf ps I ax) [I] ps.length (fun j v => j < (itemsOf ps).size ∧ v = valsOf ps j)
      (fun j h => h.IsListIter I ax j ∧ SeqAt h ax (itemsOf ps) ∧ ∀ k, k < (itemsOf ps).size → h.IsTuple (addrAt ps k) (valsOf ps k))
      (fun j T h => (j < (itemsOf ps).size ∧ T = addrAt ps j) ∧ h.IsListIter I ax (j + 1) ∧ SeqAt h ax (itemsOf ps) ∧ ∀ k, k < (itemsOf ps).size → h.IsTuple (addrAt ps k) (valsOf ps k)) := fun A' hh' => by
    have x := walksAcc (prog := prog) (w := w) (A := A') hh' I ax haI (itemsOf ps) (addrAt ps) (valsOf ps) (fun j hj => itemsOf_get ps (by rw [itemsOf_size] at hj; exact hj)) (fun j hj => by
      rw [itemsOf_size] at hj
      obtain ⟨x, hx, e, _⟩ := mem_addrs hj
      rw [e]; exact hxI x hx)
    rw [itemsOf_size] at x
    rw [itemsOf_size]
    refine WalksU.mono_fp x fun b hb => ?_
    unfold fpOf
    rw [itemsOf_size]
    exact List.mem_cons_of_mem _ (List.mem_cons_of_mem _ (List.mem_cons_of_mem _ hb))
  have hst : s.heap.IsListIter I ax 0 ∧ SeqAt s.heap ax (itemsOf ps) ∧ ∀ k, k < (itemsOf ps).size → s.heap.IsTuple (addrAt ps k) (valsOf ps k) := ⟨hit, hacc, fun k hk' => by
    rw [itemsOf_size] at hk'
    obtain ⟨x, hx, e, e', _⟩ := mem_addrs hk'
    rw [e, e']; exact htup x hx⟩
  have hab : S "fws" ≠ S "part" := by decide
  have W := WalksS.genexpQ (prog := prog) (w := w) hh a g cenv.locals (fpOf ps I ax) [I] (fun _ => true) ps.length F haC haf (fun b hb => by rw [List.mem_singleton.mp hb]; simp [fpOf]) hroom (by simp [fpOf, cStatics]) hC2 (fun hb => h2I (List.mem_singleton.mp hb))
  have hq : QuietGenT prog w cenv (S "fws") (S "part") [] elt (fpOf ps I ax) [I] (fun j v => j < (itemsOf ps).size ∧ v = valsOf ps j) (fun _ => true) F s.heap := ⟨fun A' E' i va vb s₂ m₂ _ _ _ _ _ _ => by
      simp only [List.forIn_nil]
      exact wpAny_pure ⟨rfl, s₂.heap, s₂.toks, rfl, fun _ _ e => e⟩,
    fun A' E' i va vb s₂ m₂ _ hPt _ hn hx hy hkp => by
      obtain ⟨hi, hv⟩ := hPt
      rw [itemsOf_size] at hi
      obtain ⟨x, hx', e, e', e3⟩ := mem_addrs hi
      rw [e'] at hv
      have h2 : va = .str x.f x.ft ∧ vb = .str x.p x.pt := by simpa using hv
      obtain ⟨rfl, rfl⟩ := h2
      exact helt A' E' i x s₂ m₂ e3 hn hx hy hkp⟩
  have G := GenAt.freshT (prog := prog) (w := w) (A := A) (iter := .Name (S "self") p4) (pa := p1) (pb := p2) (pt := p3) (kt := 0) hh W₀ (fun i vals hv => by
      obtain ⟨hi, rfl⟩ := hv
      rw [itemsOf_size] at hi
      obtain ⟨x, hx', e, e', e3⟩ := mem_addrs hi
      exact ⟨_, _, e'⟩) hab (fun _ => true) F hf hp (by rw [hk]; rfl) hco hCf hq hgen hgs hst hC (nolimit H)
  rw [passing_all, List.length_range] at W
  refine ⟨⟨W.sub, W.grefl, W.gtrans, W.frame, fun i s Q E hi st hQ => W.item i s Q E hi st fun v s' hv => ?_, W.done, W.self⟩, G⟩
  obtain ⟨i', hi', hF⟩ := hv
  rw [List.getElem?_range hi] at hi'
  cases hi'
  exact hQ v s' hF
theorem WalksS.shift {I : Addr} {fp wr : List Addr} {G : Array GenState → Array GenState → Prop} {n : Nat} {Pt : Nat → Value → Prop} {St : Nat → Shared → Prop} (W : WalksS prog w A I fp wr G n Pt St) :
    WalksS prog w A I fp wr G (n + 1) (fun i v => ∃ j, i = j + 1 ∧ Pt j v) (fun i s => ∃ j, i = j + 1 ∧ St j s) where
  sub := W.sub
  grefl := W.grefl
  gtrans := W.gtrans
  frame := fun i s h' tk ⟨j, e, st⟩ ht hk => ⟨j, e, W.frame j s h' tk st ht hk⟩
  item := fun i s Q E hi ⟨j, e, st⟩ hQ => by
    subst e
    exact W.item j s Q E (by omega) st fun v s' hv hst hm => hQ v s' ⟨j, rfl, hv⟩ ⟨j + 1, rfl, hst⟩ hm
  done := fun s Q E ⟨j, e, st⟩ hQ => by
    have : n = j := by omega
    subst this
    exact W.done s Q E st hQ
  self := fun i s Q E ⟨j, e, st⟩ hQ => W.self j s Q E st hQ
end
end Mine

namespace Mine
open PySem PySem.W PySem.W.X
open Sem (wp)
noncomputable section
theorem runs_size {M : Model} {Γ : Ctx} {p : Pos} {t : Sem Fin} {fs : List PySem.Frame} {s s' : Shared} {e : End} (h : PySem.Runs M Γ p t fs s e s') : s.heap.objs.size ≤ s'.heap.objs.size := by
  induction h <;> (try simp only [Shared.setGen, Heap.size_push, Heap.size_update] at *) <;> omega
theorem codeAny_with_size {M : Model} {A : Around} {s : Shared} {c : Code} {R : Result → Shared → Prop} (h : codeAny M A c (fun r s' => s.heap.objs.size ≤ s'.heap.objs.size → R r s') s) : codeAny M A c R s :=
  fun Γ p hc hΓ => by obtain ⟨r, s', hr, hR⟩ := h Γ p hc hΓ; exact ⟨r, s', hr, hR (runs_size hr)⟩

noncomputable def lenAt (ps : List Part) (i : Nat) : Int := match ps[i]? with
  | some x => ((x.f.length + x.p.length : Nat) : Int)
  | none => 0
noncomputable def startVal (iv : Int) (ps : List Part) : Nat → Int
  | 0 => iv
  | j + 1 => lenAt ps j
theorem preSum_start (iv : Int) (ps : List Part) : ∀ j, j ≤ ps.length → preSum (startVal iv ps) (j + 1) = iv + total (ps.take j)
  | 0, _ => by simp [preSum, startVal, total]
  | j + 1, h => by
    have ih := preSum_start iv ps j (by omega)
    have e : ps.take (j + 1) = ps.take j ++ [ps[j]] := by rw [List.take_add_one, List.getElem?_eq_getElem (by omega)]; rfl
    show preSum (startVal iv ps) (j + 1) + lenAt ps j = _
    have e2 : total (ps.take (j + 1)) = total (ps.take j) + lenAt ps j := by
      rw [e]
      unfold total lenAt
      rw [List.getElem?_eq_getElem (by omega), List.map_append, List.sum_append]
      rfl
    rw [ih, e2]
    omega
noncomputable def genO (g : Nat) (nm qn : Value) : Obj := { cls := .type "generator", data := .fields #[.int g 0, nm, qn] }
noncomputable def litO (a i : Nat) : Obj := { cls := .type "list_iterator", data := .fields #[.ref a, .int i 0] }
structure Ge where
  G : Nat
  C : Nat
  I : Nat
  a : Nat
  g : Nat
  nm : Value
  qn : Value
  co : Obj
  ao : Obj
  qu : Str
  fu : Option Addr
  cd : Value
  fr : Option Addr
noncomputable def geL (x : Ge) : List (Nat × Obj) := [(x.G + 247, genO x.g x.nm x.qn), (x.C + 247, x.co), (x.I + 247, litO (x.a + 247) 0), (x.a + 247, x.ao)]
noncomputable def geE (sc : Scope) (x : Ge) : Env := ⟨sc, x.C + 247, 3, [], x.qu, x.fu, x.cd, x.fr, 0⟩
noncomputable def geC (ge : Expr) (sc : Scope) (x : Ge) : List (Nat × Code) := [(x.g, .compStart ge 0 (.ref (x.I + 247)) .none (geE sc x))]
noncomputable def envS (gs : List (Nat × Code)) : Env := match gs with
  | (_, .compStart _ _ _ _ env) :: _ => env
  | _ => ⟨lenScope, 0, 0, [], ⟨#[]⟩, none, .none, none, 0⟩
noncomputable def geS (L : List (Nat × Obj)) (gs : List (Nat × Code)) : Ge := ⟨lA L 0, lA L 1, lA L 2, lA L 3, (vI (atV (oFld (lO L 0)) 0)).toNat, atV (oFld (lO L 0)) 1, atV (oFld (lO L 0)) 2, lO L 1, lO L 3, (envS gs).qual, (envS gs).func, (envS gs).code, (envS gs).frame⟩
noncomputable def dKeys (o : Obj) : Bool := match o.data with
  | .dict es _ => es.toList.all isKey
  | _ => false
noncomputable def isSeq (o : Obj) : Bool := match o.data with
  | .seq _ _ => true
  | _ => false
theorem isSeq_e {o : Obj} (h : isSeq o = true) : ∃ ep, o.data = .seq (oSeq o) ep := by
  unfold isSeq at h
  unfold oSeq
  cases e : o.data with
  | seq xs ep => exact ⟨ep, rfl⟩
  | _ => rw [e] at h; cases h
theorem dKeys_e {o : Obj} (h : dKeys o = true) : ∃ es ep, o.data = .dict es ep ∧ StrKeys es := by
  unfold dKeys at h
  cases e : o.data with
  | dict es ep => rw [e] at h; exact ⟨es, ep, rfl, keys_of h⟩
  | _ => rw [e] at h; cases h
structure GeOk (ps : List Part) (ge : Expr) (sc : Scope) (x : Ge) (q : List (Nat × Obj)) (gs : List (Nat × Code)) : Prop where
  gs : gs = geC ge sc x
  co : dKeys x.co = true
  ao : isSeq x.ao = true
  xs : oSeq x.ao = itemsOf ps
  sm : Small ps
  kn : Known ps q
section
variable {w : World} {V : Vol} {h : Heap} {gn : Array GenState} {q : List (Nat × Obj)} {gs : List (Nat × Code)} {x : Ge} {ps : List Part} {ge : Expr} {sc : Scope}
noncomputable abbrev fpG (ps : List Part) (x : Ge) : List Nat := fpOf ps (x.I + 247) (x.a + 247)
theorem ge_all (H : Have w.params V h gn (geL x) q gs) (hp : GeOk ps ge sc x q gs) :
    (∀ b ∈ (x.G + 247) :: (x.C + 247) :: fpG ps x, b < h.objs.size) ∧ x.C + 247 ∉ fpG ps x ∧ x.G + 247 ∉ fpG ps x ∧ (∀ y ∈ ps, y.addr ≠ x.I + 247) ∧ x.G ≠ x.C ∧ x.a ≠ x.I ∧ x.a ≠ x.C := by
  have nd := H.nodup
  simp only [geL, List.map_cons, List.map_nil, List.nodup_cons, List.mem_cons, not_or, List.not_mem_nil, not_false_eq_true, and_true] at nd
  have hn : ∀ y ∈ ps, y.addr ≠ x.G + 247 ∧ y.addr ≠ x.C + 247 ∧ y.addr ≠ x.I + 247 := fun y hy => by
    have := (H.gh _ (hp.kn y hy).1).2.1
    simp only [geL, List.map_cons, List.map_nil, List.mem_cons, not_or, Part.obj] at this
    exact ⟨this.1, this.2.1, this.2.2.1⟩
  have mm : ∀ {b}, b ∈ fpG ps x → b = 0 ∨ b = 2 ∨ b = 3 ∨ b = x.I + 247 ∨ b = x.a + 247 ∨ ∃ y ∈ ps, y.addr = b := fun hm => by
    simp only [fpG, fpOf, List.mem_cons, List.mem_map, List.mem_range, itemsOf_size] at hm
    rcases hm with e | e | e | e | e | ⟨j, hj, e⟩
    · exact .inl e
    · exact .inr (.inl e)
    · exact .inr (.inr (.inl e))
    · exact .inr (.inr (.inr (.inl e)))
    · exact .inr (.inr (.inr (.inr (.inl e))))
    · obtain ⟨y, hy, e1, _⟩ := mem_addrs hj
      exact .inr (.inr (.inr (.inr (.inr ⟨y, hy, e1.symm.trans e⟩))))
  have nfp : ∀ b, 3 < b → b ≠ x.I + 247 → b ≠ x.a + 247 → (∀ y ∈ ps, y.addr ≠ b) → b ∉ fpG ps x := fun b h0 h1 h2 h3 hm => by
    rcases mm hm with e | e | e | e | e | ⟨y, hy, e⟩
    · omega
    · omega
    · omega
    · exact h1 e
    · exact h2 e
    · exact h3 y hy e
  have lt : ∀ p ∈ geL x, p.1 < h.objs.size := fun p hm => Heap.lt_size (H.has p hm)
  refine ⟨fun b hm => ?_, nfp _ (by omega) (by omega) (by omega) fun y hy => (hn y hy).2.1, nfp _ (by omega) (by omega) (by omega) fun y hy => (hn y hy).1, fun y hy => (hn y hy).2.2, by omega, by omega, by omega⟩
  have big := H.big
  rcases List.mem_cons.mp hm with rfl | hm
  · exact lt (x.G + 247, genO x.g x.nm x.qn) (by simp [geL])
  rcases List.mem_cons.mp hm with rfl | hm
  · exact lt (x.C + 247, x.co) (by simp [geL])
  rcases mm hm with e | e | e | e | e | ⟨y, hy, e⟩
  · omega
  · omega
  · omega
  · rw [e]; exact lt (x.I + 247, litO (x.a + 247) 0) (by simp [geL])
  · rw [e]; exact lt (x.a + 247, x.ao) (by simp [geL])
  · rw [← e]; exact Heap.lt_size (H.gh _ (hp.kn y hy).1).1
theorem ge_end (H : Have w.params V h gn (geL x) q gs) (hp : GeOk ps ge sc x q gs) {h' : Heap} {g' : Array GenState} (keep : ∀ b o, h.get? b = some o → b ≠ x.C + 247 → b ≠ x.I + 247 → h'.get? b = some o) (hsz : h.objs.size ≤ h'.objs.size) (hb : PyProof.Rows.AllBare g') :
    After V h (geL x) q h' g' [frO, frO, frO, x.ao] [] [] := by
  have z := ge_all H hp
  have aC := (H.apart (x.C + 247, x.co) (by simp [geL])).2
  have aI := (H.apart (x.I + 247, litO (x.a + 247) 0) (by simp [geL])).2
  refine ⟨rfl, fun i p o e1 e2 hf => ?_, fun p hp => (nomatch hp), List.nodup_nil, fun p hp => (nomatch hp), fun b o e hv hb => ?_, hsz, (H.inv.same (h' := h') fun b hb o e => keep b o e (fun y => aC (y ▸ hb)) (fun y => aI (y ▸ hb))).1, hb⟩
  · match i, e1, e2 with
    | 0, e1, e2 => cases e2; cases hf
    | 1, e1, e2 => cases e2; cases hf
    | 2, e1, e2 => cases e2; cases hf
    | 3, e1, e2 =>
      cases e1; cases e2
      have := z.2.2.2.2
      exact keep _ _ (H.has (x.a + 247, x.ao) (by simp [geL])) (fun e => this.2.2 (Nat.add_right_cancel e)) (fun e => this.2.1 (Nat.add_right_cancel e))
  · simp only [geL, List.map_cons, List.mem_cons, not_or] at hb
    exact keep b o e hb.2.1 hb.2.2.1
noncomputable def scOk (sc : Scope) : Prop := sc.kind = .function ∧ sc.isCoroutine = false ∧ ∀ x : Ge, (geE sc x).kindOf (S "fws") = some .local ∧ (geE sc x).kindOf (S "part") = some .local
theorem ge_walk {A : Around} {dr : Drawn} {tk : Nat} {os : OsState} {elt : Expr} {l : Nat} {p1 p2 p3 p4 p5 : Pos} {F : Nat → Value → Prop} (hh : A.handled = none) (hd : A.depth < 1000) (hs : scOk sc)
    (H : Have w.params V h gn (geL x) q gs) (hp : GeOk ps (genOf elt l p1 p2 p3 p4 p5 sc) sc x q gs)
    (helt : ∀ (A' : Around) E' i y (s₂ : Shared) m₂, ps[i]? = some y → s₂.heap.Ns (x.C + 247) m₂ → m₂ (S "fws") = some (.str y.f y.ft) → m₂ (S "part") = some (.str y.p y.pt) → (∀ b ∈ fpG ps x, b ∉ [x.I + 247] → ∀ o, h.get? b = some o → s₂.heap.get? b = some o) →
      wpAny (model PW w) A' (eval elt (geE sc x)) (fun y s₃ => F i y ∧ Keeps s₂ s₃) E' s₂) :
    WalksS PW w A (x.G + 247) ((x.G + 247) :: (x.C + 247) :: fpG ps x) ((x.C + 247) :: [x.I + 247]) (GenOnlyQ x.g) ps.length (fun j y => F j y) (GenAt PW w A (x.G + 247) x.g (x.C + 247) (fpG ps x) [x.I + 247] (fun _ => true) ps.length F) ∧
    GenAt PW w A (x.G + 247) x.g (x.C + 247) (fpG ps x) [x.I + 247] (fun _ => true) ps.length F 0 ⟨h, gn, dr, tk, os⟩ := by
  obtain ⟨z1, z2, z3, z4, z5, z6, z7⟩ := ge_all H hp
  obtain ⟨es, ep, hes, hk⟩ := dKeys_e hp.co
  obtain ⟨ep', hao⟩ := isSeq_e hp.ao
  rw [hp.xs] at hao
  have mem : ∀ p ∈ geL x, h.get? p.1 = some p.2 := H.has
  simp only [geL, List.mem_cons, List.not_mem_nil, or_false, forall_eq_or_imp, forall_eq] at mem
  exact genAcc (prog := PW) (w := w) (A := A) (s := ⟨h, gn, dr, tk, os⟩) hh hd H.top ⟨_, x.nm, x.qn, mem.1, rfl, rfl, rfl⟩ (H.gsk _ (by rw [hp.gs]; exact List.mem_cons_self ..)) ⟨_, mem.2.2.1, rfl, rfl⟩ ⟨_, _, mem.2.2.2, hao⟩
    (fun y hy => ⟨_, (H.gh _ (hp.kn y hy).1).1, rfl, _, rfl⟩) (ns_of mem.2.1 hes hk) rfl hs.1 (hs.2.2 x).1 (hs.2.2 x).2 hs.2.1 (by omega) z4 z2 z3 (by omega) (by omega) (by omega) helt
end
theorem lenElt_ok {prog : Program} {w : World} {P : Params} {s₀ : Heap} (H : ∀ a o, (top P).get a = some o → s₀.get? a = some o) {ps : List Part} (hs : Small ps) {C I ax : Nat} {cenv : Env} (h0I : (0 : Nat) ≠ I) (h3I : (3 : Nat) ≠ I)
    (hl : cenv.locals = C) (hg : cenv.globals = 3) (hb : cenv.builtins = 0) (hsc : cenv.scope = lenScope) (hcl : cenv.cells = []) :
    ∀ (A' : Around) E' i x (s₂ : Shared) m₂, ps[i]? = some x → s₂.heap.Ns C m₂ → m₂ (S "fws") = some (.str x.f x.ft) → m₂ (S "part") = some (.str x.p x.pt) → (∀ b ∈ fpOf ps I ax, b ∉ [I] → ∀ o, s₀.get? b = some o → s₂.heap.get? b = some o) →
      wpAny (model prog w) A' (eval lenElt cenv) (fun y s₃ => (∃ t, y = .int (lenAt ps i) t) ∧ Keeps s₂ s₃) E' s₂ := by
  intro A' E' i x s₂ m₂ hx hn hf hp hk
  have hx' := List.mem_of_getElem? hx
  have k : cenv.scope.kind = .function := by rw [hsc]; rfl
  have kl : cenv.kindOf (S "len") = some .globalImplicit := by unfold Env.kindOf; rw [hsc]; rfl
  have kf : cenv.kindOf (S "fws") = some .local := by unfold Env.kindOf; rw [hsc]; rfl
  have kp : cenv.kindOf (S "part") = some .local := by unfold Env.kindOf; rw [hsc]; rfl
  have n0 : s₂.heap.Ns cenv.builtins (nsFind (esOf (ob0 P))) := by rw [hb]; exact (ns0 H).at' fun o e => hk 0 (by simp [fpOf]) (by simp [h0I]) o e
  have n3 : s₂.heap.Ns cenv.globals (nsFind (esOf (ob3 P))) := by rw [hg]; exact (ns3 H).at' fun o e => hk 3 (by simp [fpOf]) (by simp [h3I]) o e
  have nl : s₂.heap.Ns cenv.locals m₂ := by rw [hl]; exact hn
  have hz := hs.2 x hx'
  refine wpAny_BinOp (lenCall k kl kf n3 find3 n0 find0 nl hf (by decide) (by omega) fun t1 k1 => ?_)
  refine lenCall (m := m₂) k kl kp n3 find3 n0 find0 nl hp (by decide) (by omega) fun t2 k2 => ?_
  refine wpAny_add_int ⟨⟨k2, ?_⟩, s₂.heap, _, rfl, fun _ _ e => e⟩
  unfold lenAt
  rw [hx]
  exact congrArg (fun z => Value.int z k2) (Int.natCast_add _ _).symm

theorem lenSc : scOk lenScope := ⟨rfl, rfl, fun _ => ⟨rfl, rfl⟩⟩
noncomputable def suC (x : Ge × Int × Nat) : Cl := ⟨.builtin "sum" ⟨[.ref (x.1.G + 247), .int x.2.1 x.2.2], []⟩, geL x.1⟩
noncomputable def GeP (ps : List Part) (ge : Expr) (sc : Scope) (x : Ge) (q : List (Nat × Obj)) (gs : List (Nat × Code)) (r : Prop) : Prop := gs = geC ge sc x ∧ dKeys x.co = true ∧ isSeq x.ao = true ∧ oSeq x.ao = itemsOf ps ∧ Small ps ∧ Known ps q ∧ r
theorem GeP.ok {ps : List Part} {ge : Expr} {sc : Scope} {x : Ge} {q : List (Nat × Obj)} {gs : List (Nat × Code)} {r : Prop} (h : GeP ps ge sc x q gs r) : GeOk ps ge sc x q gs ∧ r := ⟨⟨h.1, h.2.1, h.2.2.1, h.2.2.2.1, h.2.2.2.2.1, h.2.2.2.2.2.1⟩, h.2.2.2.2.2.2⟩
noncomputable def ctSum (ps : List Part) : Ct := mkC 6 (fun c L gs => (geS L gs, vI (arg c 1), vT (arg c 1))) suC fun x q gs tk post =>
  GeP ps lenGen lenScope x.1 q gs (∀ t tk' : Nat, post (.ok (.ret (.int (x.2.1 + total ps) t))) tk' [frO, frO, frO, x.1.ao] [] [])
theorem ctSum_ok (w : World) (V : Vol) (ps : List Part) : CtOk w V (ctSum ps) := mkC_by fun y q gs tk post hp A Q h gn dr os hr H hQ => by
  obtain ⟨x, iv, it⟩ := y
  obtain ⟨hp, hpost⟩ := GeP.ok hp
  dsimp only at hp hpost
  change Have w.params V h gn (geL x) q gs at H
  obtain ⟨z1, z2, z3, z4, z5, z6, z7⟩ := ge_all H hp
  obtain ⟨W, Gt⟩ := ge_walk (w := w) (A := A.in1) (dr := dr) (tk := tk) (os := os) hr.hd (by have := hr.depth; show A.depth < 1000; omega) lenSc H hp (lenElt_ok H.top hp.sm (by omega) (by omega) rfl rfl rfl rfl rfl)
  have W' := WalksS.shift W
  have hS2 : ∀ b o, h.get? b = some o → b ≠ h.objs.size := fun b o e => Nat.ne_of_lt (Heap.lt_size e)
  have loop : ∀ st tA tk1, (st = 0 ∨ st = 2) → tk ≤ tk1 → codeAny (model PW w) A (.builtin "sum.loop" ⟨[.ref (x.G + 247), .ref h.objs.size, rawInt st, rawInt 0], []⟩) (fun r s' => h.objs.size ≤ s'.heap.objs.size → Q r s')
      ⟨h.push { cls := .type "list", data := .seq #[.int iv tA] }, gn, dr, tk1, os⟩ := fun st tA tk1 hst htk => by
    refine codeAny_sum_loopAnyS W' (startVal iv ps) (fun i v hv => by obtain ⟨j, rfl, t, rfl⟩ := hv; exact ⟨t, rfl⟩) h.objs.size (fun hm => Nat.lt_irrefl _ (z1 _ hm)) ps.length 1 _ tA 0 st hst (by omega) (by omega)
      ⟨0, rfl, ?_⟩ ?_ fun s' t' hm hsz => ?_
    · exact W.frame 0 ⟨h, gn, dr, tk, os⟩ _ _ Gt htk fun b _ o e => Heap.get?_push_of_some _ e
    · have : preSum (startVal iv ps) 1 = iv := by simp [preSum, startVal]
      rw [this]
      exact Heap.get?_push_size _ rfl
    · rw [preSum_start iv ps _ (Nat.le_refl _), List.take_length]
      have hd := hm.drawn
      have ho := hm.os
      obtain ⟨h', g', d', tk', os'⟩ := s'
      cases hd
      cases ho
      exact hQ _ _ _ _ _ h' g' (hpost _ _) (ge_end H hp (fun b o e n1 n2 => hm.heap b o (by
        simp only [List.mem_cons, not_or, List.not_mem_nil, not_false_eq_true, and_true]
        exact ⟨hS2 b o e, n1, n2⟩) (Heap.get?_push_of_some _ e)) hsz (hm.gens.bare H.inv.2))
  refine codeAny_with_size (codeAny_builtin PySem.F.entry_sum ?_)
  rw [Around.under_plainId PySem.F.plain_sum _]
  unfold Builtin.«sum»
  simp only [List.length_cons, List.length_nil]
  rw [if_neg (by decide)]
  refine wpAny_bind (wpAny_of_eq (show Builtin.Builtins.bindParams "sum" ["start"] 0 ⟨[.int iv it], []⟩ = pure [some (.int iv it)] from rfl) ?_)
  refine wpAny_bind (W.self 0 _ _ _ Gt ?_)
  have fin : ∀ st tA tk1, (st = 0 ∨ st = 2) → tk ≤ tk1 → wpAny (model PW w) A.in1 (do
      for x in [("str", "strings", "''"), ("bytes", "bytes", "b''"), ("bytearray", "bytearray", "b''")] do
        if ← isInstance (.int iv tA) (.type x.1) then
          rule "sum.start-refused"
          raiseError "TypeError" s!"sum() can't sum {x.2.1} [use {x.2.2}.join(seq) instead]"
      again (.builtin "sum.loop" ⟨[.ref (x.G + 247), ← newList [.int iv tA], rawInt st, rawInt 0], []⟩)) (fun fin s' => match fin with
        | .done f => h.objs.size ≤ s'.heap.objs.size → Q (.ok f) s'
        | .again c' => c'.quiet = true ∧ codeAny (model PW w) A c' (fun r s' => h.objs.size ≤ s'.heap.objs.size → Q r s') s') (fun e s' => h.objs.size ≤ s'.heap.objs.size → Q (.error e) s') ⟨h, gn, dr, tk1, os⟩ := fun st tA tk1 hst htk => by
    simp only [List.forIn_cons, List.forIn_nil]
    refine wpAny_bind (wpAny_bind (wpAny_bind (wpAny_isInstance (T := "int") (b := false) (typeIs_int _ _ _) sub_int_str ?_)))
    simp only [Bool.false_eq_true, if_false]
    refine wpAny_pure (wpAny_bind (wpAny_bind (wpAny_isInstance (T := "int") (b := false) (typeIs_int _ _ _) sub_int_bytes ?_)))
    simp only [Bool.false_eq_true, if_false]
    refine wpAny_pure (wpAny_bind (wpAny_bind (wpAny_isInstance (T := "int") (b := false) (typeIs_int _ _ _) sub_int_bytearray ?_)))
    simp only [Bool.false_eq_true, if_false]
    refine wpAny_pure (wpAny_pure ?_)
    refine wpAny_bind (wpAny_newObj_type ?_)
    exact wpAny_pure ⟨plainId_quiet PySem.F.plain_sum_loop _, loop st tA tk1 hst htk⟩
  dsimp only
  split
  · exact wpAny_bind (wpAny_rule (wpAny_bind (wpAny_mkInt (wpAny_bind (wpAny_pure (fin 0 _ _ (.inl rfl) (Nat.le_succ _)))))))
  · exact wpAny_bind (wpAny_pure (fin 2 _ _ (.inr rfl) (Nat.le_refl _)))
noncomputable def txtAt (ps : List Part) (i : Nat) : Str := match ps[i]? with
  | some x => x.f ++ x.p
  | none => S ""
theorem join2 (f p : Str) : Txt.join (S "") [f, p] = f ++ p := by
  unfold Txt.join
  rw [StrLaws.glued_eq_join]
  show f ++ S "" ++ p = _
  have : f ++ S "" = f := by
    cases f with | mk c => show (⟨c ++ #[]⟩ : Str) = _; rw [Array.append_empty]
  rw [this]
theorem strElt_ok {prog : Program} {w : World} {P : Params} {s₀ : Heap} (H : ∀ a o, (top P).get a = some o → s₀.get? a = some o) {ps : List Part} (hs : Small ps) {C I ax : Nat} {cenv : Env} (h0I : (0 : Nat) ≠ I) (h3I : (3 : Nat) ≠ I)
    (hl : cenv.locals = C) (hg : cenv.globals = 3) (hb : cenv.builtins = 0) (hsc : cenv.scope = strScope) (hcl : cenv.cells = []) :
    ∀ (A' : Around) E' i x (s₂ : Shared) m₂, ps[i]? = some x → s₂.heap.Ns C m₂ → m₂ (S "fws") = some (.str x.f x.ft) → m₂ (S "part") = some (.str x.p x.pt) → (∀ b ∈ fpOf ps I ax, b ∉ [I] → ∀ o, s₀.get? b = some o → s₂.heap.get? b = some o) →
      wpAny (model prog w) A' (eval strElt cenv) (fun y s₃ => (∃ t, y = .str (txtAt ps i) t) ∧ Keeps s₂ s₃) E' s₂ := by
  intro A' E' i x s₂ m₂ hx hn hf hp hk
  have hx' := List.mem_of_getElem? hx
  have k : cenv.scope.kind = .function := by rw [hsc]; rfl
  have kl : cenv.kindOf (S "EMPTYSTRING") = some .globalImplicit := by unfold Env.kindOf; rw [hsc]; rfl
  have kf : cenv.kindOf (S "fws") = some .local := by unfold Env.kindOf; rw [hsc]; rfl
  have kp : cenv.kindOf (S "part") = some .local := by unfold Env.kindOf; rw [hsc]; rfl
  have n3 : s₂.heap.Ns cenv.globals (nsFind (esOf (ob3 P))) := by rw [hg]; exact (ns3 H).at' fun o e => hk 3 (by simp [fpOf]) (by simp [h3I]) o e
  have nl : s₂.heap.Ns cenv.locals m₂ := by rw [hl]; exact hn
  have hz := hs.2 x hx'
  refine Call_method1 rfl rfl rfl (Calls.Name_function_global k kl (Calls.loadGlobal_global n3 find3e ?_))
  refine ⟨"str", _, PySem.F.plainAttrs_str, PySem.F.slot_str_join, PySem.F.type_str_join, typeIs_str _ _ _, (fun _ e => nomatch e), method1_meets PySem.F.slot_str_join PySem.F.entry_str_join ?_⟩
  refine wpAny_Tuple ?_
  show wpAny _ _ (spliced [(false, eval (.Name (S "fws") _) cenv), (false, eval (.Name (S "part") _) cenv)]) _ _ _
  refine Calls.spliced_cons (local_ok k kf nl hf (by decide) (Calls.spliced_cons (local_ok k kp nl hp (by decide) (Calls.spliced_nil ⟨by show 2 ≤ sizeLine; decide, ?_⟩))))
  have hok : JoinOk (S "") [x.f, x.p] = true := PyProof.Rows.joinOk_of (by
    have e : (S "").length = 0 := rfl
    simp only [List.map_cons, List.map_nil, List.sum_cons, List.sum_nil, List.length_cons, List.length_nil, e]
    omega)
  have hok' := hok
  unfold JoinOk at hok'
  rw [Bool.not_eq_true'] at hok'
  refine ⟨typeIs_str _ _ _, PySem.F.args_str_join_2 _ _, _, meets_str_join_tuple (S "") 532 _ [(x.f, x.ft), (x.p, x.pt)] hok', ⟨_, 0, Heap.get?_push_size _ rfl, rfl, rfl⟩, post_join _ ⟨joinFit_length hok', fun t' k => ?_⟩⟩
  refine ⟨⟨t', ?_⟩, _, k, rfl, fun b o e => Heap.get?_push_of_some _ e⟩
  unfold txtAt
  rw [hx]
  exact congrArg (fun z => Value.str z t') (join2 _ _)
theorem strSc : scOk strScope := ⟨rfl, rfl, fun _ => ⟨rfl, rfl⟩⟩
noncomputable def joC (x : Ge × Nat) : Cl := ⟨.builtin "str.join" ⟨[.str (S "") x.2, .ref (x.1.G + 247)], []⟩, geL x.1⟩
noncomputable def ctJoin (ps : List Part) : Ct := mkC 6 (fun c L gs => (geS L gs, vT (arg c 0))) joC fun x q gs tk post =>
  GeP ps strGen strScope x.1 q gs (∀ t tk' : Nat, post (.ok (.ret (.str (textOf ps) t))) tk' [frO, frO, frO, x.1.ao] [] [])
theorem ctJoin_ok (w : World) (V : Vol) (ps : List Part) : CtOk w V (ctJoin ps) := mkC_by fun y q gs tk post hp A Q h gn dr os hr H hQ => by
  obtain ⟨x, tsp⟩ := y
  obtain ⟨hp, hpost⟩ := GeP.ok hp
  dsimp only at hp hpost
  change Have w.params V h gn (geL x) q gs at H
  have hsm := hp.sm
  obtain ⟨fplt, z2, z3, z4, z5, z6, z7⟩ := ge_all H hp
  obtain ⟨W, Gt⟩ := ge_walk (w := w) (A := A.in1.in1) (dr := dr) (tk := tk) (os := os) hr.hd (by have := hr.depth; show A.depth < 1000; omega) strSc H hp (strElt_ok H.top hp.sm (by omega) (by omega) rfl rfl rfl rfl rfl)
  refine codeAny_with_size (codeAny_builtin PySem.F.entry_str_join ?_)
  rw [Around.under_plainId PySem.F.slot_str_join.plain _]
  rw [join_tree_other]
  have hT : ∀ i s, GenAt PW w A.in1.in1 (x.G + 247) x.g (x.C + 247) (fpG ps x) [x.I + 247] (fun _ => true) ps.length (fun j v => ∃ t, v = .str (txtAt ps j) t) i s → s.TypeIs (.ref (x.G + 247)) "generator" := fun i s x => by
    obtain ⟨⟨o, nm, qn, ho, hc, _⟩, _⟩ := x
    exact ⟨o, ho, hc⟩
  refine wpAny_bind (wpAny_typeOf (hT 0 _ Gt) ?_)
  show wpAny _ A.in1 ((pyIter (.ref (x.G + 247))).tryCatch _ >>= fun it => collect it >>= fun items => joinTail (S "") items) _ _ _
  refine wpAny_bind (wpAny_tryCatch (W.of_in1.self 0 _ _ _ Gt ?_))
  refine wpAny_bind (wpAny_collect_gen W hT Gt fplt (List.mem_cons_self ..) (fun s' acc hm hacc' => ?_) (by have := hsm.1; have e : sizeLine = 16777216 := rfl; omega))
  obtain ⟨l, hl⟩ := exists_strValues acc.toList fun v hv => by
    obtain ⟨j, hj, rfl⟩ := Array.mem_iff_getElem.mp (Array.mem_toList_iff.mp hv)
    obtain ⟨t, e⟩ := hacc'.2 j _ (Array.getElem?_eq_getElem hj)
    exact ⟨_, t, e⟩
  have hlen : l.length = ps.length := by
    rw [← hacc'.1, ← Array.length_toList, ← hl]
    simp [strValues]
  have hmap : l.map (·.1) = ps.map (fun x => x.f ++ x.p) := by
    refine List.ext_getElem (by simp [hlen]) fun j h1 h2 => ?_
    simp only [List.length_map] at h1 h2
    have hj : acc[j]? = some (.str l[j].1 l[j].2) := by
      rw [← Array.getElem?_toList, ← hl]
      simp [strValues, h1]
    obtain ⟨t, e⟩ := hacc'.2 j _ hj
    rw [List.getElem_map, List.getElem_map]
    injection e with e1 e2
    rw [e1]
    unfold txtAt
    rw [List.getElem?_eq_getElem h2]
  rw [← hl]
  have e0 : (S "").length = 0 := rfl
  have hsum : ∀ ps : List Part, (∀ x ∈ ps, x.f.length ≤ 1000 ∧ x.p.length ≤ 1000) → ((ps.map fun x => x.f ++ x.p).map (·.length)).sum ≤ 2000 * ps.length := fun ps => by
    induction ps with
    | nil => intro _; simp
    | cons x ps ih =>
      intro h
      have h1 := h x (List.mem_cons_self ..)
      have h2 := ih fun y hy => h y (List.mem_cons_of_mem _ hy)
      have h3 : (x.f ++ x.p).length = x.f.length + x.p.length := Array.size_append
      simp only [List.map_cons, List.sum_cons, List.length_cons, h3]
      simp only [List.map_map] at h2 ⊢
      omega
  have hok : JoinOk (S "") (l.map (·.1)) = true := PyProof.Rows.joinOk_of (by
    rw [hmap, e0, Nat.mul_zero]
    have := hsum ps hsm.2
    have := hsm.1
    omega)
  unfold JoinOk at hok
  rw [Bool.not_eq_true'] at hok
  have gv : Gives (joinTail (S "") (strValues l)) (joinMade (S "") l) := by
    have g0 := gives_joinTail (S "") l hok
    cases l with
    | nil => exact g0
    | cons p r => cases r with
      | nil => exact g0
      | cons q r' => exact g0
  refine gv PW w A (fun r s' => h.objs.size ≤ s'.heap.objs.size → Q r s') s' (post_join l ⟨joinFit_length hok, fun t' k => ?_⟩)
  intro hsz
  rw [hmap]
  have hd := hm.drawn
  have ho := hm.os
  obtain ⟨h', g', d', tk', os'⟩ := s'
  cases hd
  cases ho
  exact hQ _ _ _ _ _ h' g' (hpost _ _) (ge_end H hp (fun b o e n1 n2 => hm.heap b o (by
    simp only [List.mem_cons, not_or, List.not_mem_nil, not_false_eq_true, and_true]
    exact ⟨n1, n2⟩) e) hsz (hm.gens.bare H.inv.2))
end
end Mine

namespace Mine
open PySem PySem.W PySem.W.X
noncomputable section
noncomputable def tb1 (l : Nat) (c : Int) (v : Value) : Obj := { cls := .none, data := .fields #[.int l 0, .int c 0, v] }
noncomputable def TabV (l : Nat) (k : Int) (tb : Obj) : Prop := tb = tb0 ∨ ∃ v, tb = tb1 l k v
theorem ct_table {w : World} {V V' : Vol} {C : Ct} {t l : Nat} {k : Int} (ht : t ∈ V.vs) (hs : ∀ x ∈ V'.vs, x ∈ V.vs ∧ x ≠ t) (hv : ∀ x ∈ V.vs, x = t ∨ x ∈ V'.vs) (hl : V'.lc = V.lc) (hk : V.lc t = ((l : Int), k))
    (X : ∀ tb, TabV l k tb → ∀ c L q gs tk post, C.pre c L q gs tk post → ∀ A Q h g d os, Room C.lv A → Have w.params V' h g (L ++ [(t, tb)]) q gs →
      (∀ r tk' L' ns nq h' g' tb', post r tk' L' ns nq → TabV l k tb' → After V' h (L ++ [(t, tb)]) q h' g' (L' ++ [tb']) ns nq → Q r ⟨h', g', d, tk', os⟩) → codeAny (model PW w) A c Q ⟨h, g, d, tk, os⟩) : CtOk w V C := by
  intro c L q gs tk post hp A Q h g d os hr H hQ
  have htab : ∃ tb, TabV l k tb ∧ h.get? t = some tb := by
    rcases H.inv.1 t ht with e | ⟨v, e⟩
    · exact ⟨_, .inl rfl, e⟩
    · rw [hk] at e; exact ⟨_, .inr ⟨v, rfl⟩, e⟩
  obtain ⟨tb, htb, e⟩ := htab
  have hne : ∀ b ∈ V'.vs, b ≠ t := fun b hb => (hs b hb).2
  refine X tb htb c L q gs tk post hp A Q h g d os hr ⟨H.top, ?_, ?_, ?_, ?_, fun a o e' hm => H.tv a o e' (hs a hm).1, H.big, ⟨fun a ha => hl ▸ H.inv.1 a (hs a ha).1, H.inv.2⟩, H.gsk⟩ fun r tk' L' ns nq h' g' tb' hpost htb' Af => ?_
  · intro p hp
    rcases List.mem_append.mp hp with hp | hp
    · exact H.has p hp
    · rw [List.mem_singleton.mp hp]; exact e
  · rw [List.map_append]
    refine List.nodup_append.mpr ⟨H.nodup, by simp, fun a ha b hb hab => ?_⟩
    rw [List.map_cons, List.map_nil, List.mem_singleton] at hb
    obtain ⟨p, hp, rfl⟩ := List.mem_map.mp ha
    exact (H.apart p hp).2 (by rw [hab, hb]; exact ht)
  · intro p hp
    rcases List.mem_append.mp hp with hp | hp
    · exact ⟨(H.apart p hp).1, fun x => (H.apart p hp).2 (hs _ x).1⟩
    · rw [List.mem_singleton.mp hp]
      refine ⟨?_, fun x => hne _ x rfl⟩
      cases e' : (Mine.top w.params).get t with
      | none => rfl
      | some o => exact absurd ht (H.tv t o e')
  · intro p hp
    have y := H.gh p hp
    refine ⟨y.1, ?_, fun x => y.2.2 (hs _ x).1⟩
    rw [List.map_append, List.mem_append]
    rintro (x | x)
    · exact y.2.1 x
    · rw [List.map_cons, List.map_nil, List.mem_singleton] at x
      exact y.2.2 (x ▸ ht)
  · have hlen : L'.length = L.length := by have := Af.len; simp at this; exact this
    have htb'' : h'.get? t = some tb' := Af.here L.length (t, tb) tb' (by simp) (by rw [← hlen]; simp) (by rcases htb' with rfl | ⟨v, rfl⟩ <;> rfl)
    refine hQ r tk' L' ns nq h' g' hpost ⟨hlen, fun i p o e1 e2 hf => ?_, Af.new, Af.newd, Af.kn, fun b o e' h1 h2 => ?_, Af.size, ⟨fun a ha => ?_, Af.inv.2⟩⟩
    · have hi : i < L.length := (List.getElem?_eq_some_iff.mp e1).1
      exact Af.here i p o (by rw [List.getElem?_append_left hi]; exact e1) (by rw [List.getElem?_append_left (by rw [hlen]; exact hi)]; exact e2) hf
    · refine Af.keep b o e' (fun x => h1 (hs b x).1) ?_
      rw [List.map_append, List.mem_append]
      rintro (x | x)
      · exact h2 x
      · rw [List.map_cons, List.map_nil, List.mem_singleton] at x
        exact h1 (x ▸ ht)
    · rcases hv a ha with rfl | ha'
      · rcases htb' with rfl | ⟨v, rfl⟩
        · exact .inl htb''
        · refine .inr ⟨v, ?_⟩
          rw [hk]; exact htb''
      · have := Af.inv.1 a ha'
        rw [hl] at this
        exact this
theorem mkC_tab {w : World} {V V' : Vol} {lv : Nat} {X : Type} {view : Code → List (Nat × Obj) → List (Nat × Code) → X} {cl : X → Cl} {ok : X → List (Nat × Obj) → List (Nat × Code) → Nat → Post → Prop} {t l : Nat} {k : Int}
    (ht : t ∈ V.vs) (hs : ∀ x ∈ V'.vs, x ∈ V.vs ∧ x ≠ t) (hv : ∀ x ∈ V.vs, x = t ∨ x ∈ V'.vs) (hl : V'.lc = V.lc) (hk : V.lc t = ((l : Int), k)) (lim : Nat) (hlim : Nat.ble lim lv = true)
    (H : ∀ (x : X) q gs tk post, ok x q gs tk post → ∀ n gz post', (∀ {r tk' L' ns nq tb'}, post r tk' L' ns nq → TabV l k tb' → post' r tk' (L' ++ [tb']) ns nq) → ∀ tb, TabV l k tb → Runs w V' lim (cl x).c ((cl x).L ++ [(t, tb)]) q gs tk n gz post') : CtOk w V (mkC lv view cl ok) := by
  refine ct_table ht hs hv hl hk fun tb htb c L q gs tk post hp A Q h g d os hr hH hQ => ?_
  obtain ⟨e, hp⟩ := hp
  change Cl.mk c L = cl (view c L gs) at e
  change ok (view c L gs) q gs tk post at hp
  have e1 : c = (cl (view c L gs)).c := congrArg Cl.c e
  have e2 : L = (cl (view c L gs)).L := congrArg Cl.L e
  generalize view c L gs = x at *
  subst e1 e2
  obtain ⟨hk, hc, hs, sl, sq, j, z⟩ := H x q gs tk post hp (h.objs.size - 247) g.size (fun r tk' L' ns nq => ∃ L0 tb', L' = L0 ++ [tb'] ∧ TabV l k tb' ∧ post r tk' L0 ns nq) (fun hp ht => ⟨_, _, rfl, ht, hp⟩) tb htb
  have hl' := Nat.le_of_ble_eq_true hlim
  exact start_ok hH.top (by have := hr.depth; change A.depth + lv ≤ 990 at this; omega) (run_mn (w := w) (V := V') hl' hc hk hr hH (fun r tk' L' ns nq h' g' ⟨L0, tb', e, ht, hp⟩ Af => hQ r tk' L0 ns nq h' g' tb' hp ht (e ▸ Af)) z)
noncomputable def V0 : Vol := ⟨[179, 186], fun a => match a with | 179 => (175, 19) | 186 => (178, 32) | _ => (0, 0)⟩
noncomputable def V1 : Vol := ⟨[186], V0.lc⟩
noncomputable def V2 : Vol := ⟨[179], V0.lc⟩
noncomputable def Like (ps qs : List Part) : Prop := ps.map (fun x => (x.f, x.p)) = qs.map (fun x => (x.f, x.p))
theorem Like.map {ps qs : List Part} (h : Like ps qs) {α : Type} (F : Str × Str → α) : ps.map (fun x => F (x.f, x.p)) = qs.map (fun x => F (x.f, x.p)) := by
  have := congrArg (List.map F) h
  rwa [List.map_map, List.map_map] at this
theorem Like.total {ps qs : List Part} (h : Like ps qs) : total ps = total qs := congrArg List.sum (h.map fun p => ((p.1.length + p.2.length : Nat) : Int))
theorem Like.text {ps qs : List Part} (h : Like ps qs) : textOf ps = textOf qs := congrArg (Txt.join Str.empty) (h.map fun p => p.1 ++ p.2)
theorem Like.small {ps qs : List Part} (h : Like ps qs) (s : Small qs) : Small ps := by
  have e : ps.length = qs.length := by have := congrArg List.length h; rwa [List.length_map, List.length_map] at this
  refine ⟨e ▸ s.1, fun x hx => ?_⟩
  have hm : (x.f, x.p) ∈ qs.map (fun x => (x.f, x.p)) := h ▸ List.mem_map.mpr ⟨x, hx, rfl⟩
  obtain ⟨y, hy, e'⟩ := List.mem_map.mp hm
  have e1 : y.f = x.f := congrArg Prod.fst e'
  have e2 : y.p = x.p := congrArg Prod.snd e'
  exact e1 ▸ e2 ▸ s.2 y hy
noncomputable def AcOk (ps : List Part) (xs : Array Value) (q : List (Nat × Obj)) : Prop := Small ps ∧ ∃ ps', xs = itemsOf ps' ∧ Known ps' q ∧ Like ps' ps
noncomputable def ctLen (P : Params) (ps : List Part) : Ct := mkC 50 (fun c L _ => acS L) (fun x => acC P 184 x [] []) fun x q gs tk post =>
  AcOk ps x.xs q ∧ gs = [] ∧ ∀ t tk' : Nat, post (.ok (.ret (.int (x.iv + total ps) t))) tk' (ap P x x.xs x.ep) [] []
theorem ctLen_ok (w : World) (ps : List Part) : CtOk w V0 (ctLen w.params ps) := mkC_tab (V' := V1) (t := 179) (l := 175) (k := 19) (by decide) (by decide) (by decide) rfl rfl 40 rfl fun x q gs tk post h n gz post' hp tb htb => by
  obtain ⟨⟨hs, ps', h1, h3, hl⟩, rfl, hq⟩ := h
  have h2 := hl.small hs
  rw [← hl.total] at hq
  have h5 := fun (t tk' : Nat) (v : Value) => hp (hq t tk') (.inr ⟨v, rfl⟩)
  clear hp hq
  rcases htb with rfl | ⟨v, rfl⟩
  · exact .go1 sub0 (c1 (ctSum_ok w V1 ps')) [0,5,5,0,1,0,0,5,2,0,0,0,2,0,0,0,0,2,0,0,6,0,0,4,4,4,4,0,0,10,10,5,2,0,0,0,0,0,0,0,2,0,0,2,0,0,0,2,2,0,3,0,2,0,4,9,8,4,0] [] [] 0 (by kernel_rfl) (by kernel_rfl) (ai (rf [x.2 + 247, x.1 + 247, x.1 + 247, x.1 + 247, x.1 + 247, x.1 + 247, n + 247, n + 252, n + 252, 179, 179, 179, 179,   n + 248, x.1 + 247, x.1 + 247, x.1 + 247, n + 247, n + 247, n + 247]) (ai (rf (suC (({ G := n + 6, C := n + 5, I := n + 1, a := x.1, g := gz, nm := Value.str (Str.ofString "<genexpr>") (tk + 7), qn := Value.str (S "_Accumulator.__len__.<locals>.<genexpr>") (tk + 8), co := { cls := Value.type "frame", data := Data.dict #[eZ w.params ".0" (tk + 6) (Value.ref (n + 248))] 1 }, ao := { cls := Value.ref 217, dict := some (x.2 + 247), data := Data.seq x.3 x.4 }, qu := S "_Accumulator.__len__.<locals>.<genexpr>.", fu := none, cd := Value.ref (n + 251), fr := some (n + 252) }, x.6, x.7)))) (ai (rf ([(gz, Code.compStart lenGen 0 (Value.ref (n + 248)) Value.none { scope := lenScope, locals := n + 252, globals := 3, cells := [], qual := S "_Accumulator.__len__.<locals>.<genexpr>.", code := Value.ref (n + 251), frame := some (n + 252) })] : List (Nat × Code))) (ai (rf true) (ai (rf true) (ai h1 (ai h2 (ai h3 (fun (t : Nat) (tk' : Nat) => fun (n' : Nat) (gz' : Nat) => ai (r7 []) (h5 t tk' (Value.ref (n + 251))))))))))))
  · exact .go1 sub0 (c1 (ctSum_ok w V1 ps')) [0,5,5,0,1,0,0,5,2,0,0,0,2,0,0,0,0,2,0,0,6,0,0,4,0,0,7,7,5,2,0,0,0,0,0,0,0,2,0,0,2,0,0,0,2,2,0,3,0,2,0,4,6,5,4,0] [] [] 0 (by kernel_rfl) (by kernel_rfl) (ai (rf [x.2 + 247, x.1 + 247, x.1 + 247, x.1 + 247, x.1 + 247, x.1 + 247, n + 247, n + 249, n + 249, 179, n + 248, x.1 + 247,   x.1 + 247, x.1 + 247, n + 247, n + 247, n + 247]) (ai (rf (suC (({ G := n + 3, C := n + 2, I := n + 1, a := x.1, g := gz, nm := Value.str (Str.ofString "<genexpr>") (tk + 2), qn := Value.str (S "_Accumulator.__len__.<locals>.<genexpr>") (tk + 3), co := { cls := Value.type "frame", data := Data.dict #[eZ w.params ".0" (tk + 1) (Value.ref (n + 248))] 1 }, ao := { cls := Value.ref 217, dict := some (x.2 + 247), data := Data.seq x.3 x.4 }, qu := S "_Accumulator.__len__.<locals>.<genexpr>.", fu := none, cd := v, fr := some (n + 249) }, x.6, x.7)))) (ai (rf ([(gz, Code.compStart lenGen 0 (Value.ref (n + 248)) Value.none { scope := lenScope, locals := n + 249, globals := 3, cells := [], qual := S "_Accumulator.__len__.<locals>.<genexpr>.", code := v, frame := some (n + 249) })] : List (Nat × Code))) (ai (rf true) (ai (rf true) (ai h1 (ai h2 (ai h3 (fun (t : Nat) (tk' : Nat) => fun (n' : Nat) (gz' : Nat) => ai (r7 []) (h5 t tk' v))))))))))
noncomputable def ctStr (P : Params) (ps : List Part) : Ct := mkC 50 (fun c L _ => acS L) (fun x => acC P 191 x [] []) fun x q gs tk post =>
  AcOk ps x.xs q ∧ gs = [] ∧ ∀ t tk' : Nat, post (.ok (.ret (.str (textOf ps) t))) tk' (ap P x x.xs x.ep) [] []
theorem ctStr_ok (w : World) (ps : List Part) : CtOk w V0 (ctStr w.params ps) := mkC_tab (V' := V2) (t := 186) (l := 178) (k := 32) (by decide) (by decide) (by decide) rfl rfl 40 rfl fun x q gs tk post h n gz post' hp tb htb => by
  obtain ⟨⟨hs, ps', h1, h3, hl⟩, rfl, hq⟩ := h
  have h2 := hl.small hs
  rw [← hl.text] at hq
  have h5 := fun (t tk' : Nat) (v : Value) => hp (hq t tk') (.inr ⟨v, rfl⟩)
  clear hp hq
  rcases htb with rfl | ⟨v, rfl⟩
  · exact .go1 sub0 (c1 (ctJoin_ok w V2 ps')) [0,5,5,0,1,0,5,2,0,0,0,2,0,0,0,0,2,0,0,6,0,0,4,4,4,4,0,0,10,10,0,2,0,4,9,8,4,0] [] [] 0 (by kernel_rfl) (by kernel_rfl) (ai (rf [n + 252, n + 252, 186, 186, 186, 186, n + 248, x.1 + 247, x.1 + 247, x.1 + 247, n + 247, n + 247, n + 247]) (ai (rf (joC (({ G := n + 6, C := n + 5, I := n + 1, a := x.1, g := gz, nm := Value.str (Str.ofString "<genexpr>") (tk + 7), qn := Value.str (S "_Accumulator.__str__.<locals>.<genexpr>") (tk + 8), co := { cls := Value.type "frame", data := Data.dict #[eZ w.params ".0" (tk + 6) (Value.ref (n + 248))] 1 }, ao := { cls := Value.ref 217, dict := some (x.2 + 247), data := Data.seq x.3 x.4 }, qu := S "_Accumulator.__str__.<locals>.<genexpr>.", fu := none, cd := Value.ref (n + 251), fr := some (n + 252) }, 532)))) (ai (rf ([(gz, Code.compStart strGen 0 (Value.ref (n + 248)) Value.none { scope := strScope, locals := n + 252, globals := 3, cells := [], qual := S "_Accumulator.__str__.<locals>.<genexpr>.", code := Value.ref (n + 251), frame := some (n + 252) })] : List (Nat × Code))) (ai (rf true) (ai (rf true) (ai h1 (ai h2 (ai h3 (fun (t : Nat) (tk' : Nat) => fun (n' : Nat) (gz' : Nat) => ai (r7 []) (h5 t tk' (Value.ref (n + 251))))))))))))
  · exact .go1 sub0 (c1 (ctJoin_ok w V2 ps')) [0,5,5,0,1,0,5,2,0,0,0,2,0,0,0,0,2,0,0,6,0,0,4,0,0,7,7,0,2,0,4,6,5,4,0] [] [] 0 (by kernel_rfl) (by kernel_rfl) (ai (rf [n + 249, n + 249, 186, n + 248, x.1 + 247, x.1 + 247, x.1 + 247, n + 247, n + 247, n + 247]) (ai (rf (joC (({ G := n + 3, C := n + 2, I := n + 1, a := x.1, g := gz, nm := Value.str (Str.ofString "<genexpr>") (tk + 2), qn := Value.str (S "_Accumulator.__str__.<locals>.<genexpr>") (tk + 3), co := { cls := Value.type "frame", data := Data.dict #[eZ w.params ".0" (tk + 1) (Value.ref (n + 248))] 1 }, ao := { cls := Value.ref 217, dict := some (x.2 + 247), data := Data.seq x.3 x.4 }, qu := S "_Accumulator.__str__.<locals>.<genexpr>.", fu := none, cd := v, fr := some (n + 249) }, 532)))) (ai (rf ([(gz, Code.compStart strGen 0 (Value.ref (n + 248)) Value.none { scope := strScope, locals := n + 249, globals := 3, cells := [], qual := S "_Accumulator.__str__.<locals>.<genexpr>.", code := v, frame := some (n + 249) })] : List (Nat × Code))) (ai (rf true) (ai (rf true) (ai h1 (ai h2 (ai h3 (fun (t : Nat) (tk' : Nat) => fun (n' : Nat) (gz' : Nat) => ai (r7 []) (h5 t tk' v))))))))))
end
end Mine

set_option maxHeartbeats 0
namespace Mine
open PySem PySem.W PySem.W.X PySem.W.ZFast
open Sem (wp)
noncomputable section
noncomputable def ctPure (n : Nat) (F : List Value → (Value → Prop) → Prop) : Ct := ⟨4, fun c L q gs tk post => kB n c fun l => k0 L (F l fun v => post (.ok (.ret v)) tk [] [] [])⟩
theorem ctPure_ok (w : World) (V : Vol) {n : Nat} {s : String} {B : Builtin} {F : List Value → (Value → Prop) → Prop} (hs : PySem.code s = n) (hp : plainId s = true) (hB : entryFor table s = some B) (hF : ∀ l X, F l X → ∃ v, Gives (B ⟨l, []⟩) (.val v) ∧ X v) : CtOk w V (ctPure n F) := by
  intro c L q gs tk post hpre A Q h g d os hr H hQ
  obtain ⟨l, rfl, h1⟩ := kB_e s hs hpre
  obtain ⟨rfl, h2⟩ := k0_e h1
  obtain ⟨v, hg, hx⟩ := hF _ _ h2
  refine codeAny_builtin hB ?_
  rw [Around.under_plainId hp _]
  exact hg PW w A Q _ (hQ _ _ _ _ _ _ _ hx H.same)
noncomputable def ctInt (n : Nat) (F : List Value → (Int → Prop) → Prop) : Ct := ⟨4, fun c L q gs tk post => kB n c fun l => k0 L (F l fun v => post (.ok (.ret (.int v tk))) (tk + 1) [] [] [])⟩
theorem ctInt_ok (w : World) (V : Vol) {n : Nat} {s : String} {B : Builtin} {F : List Value → (Int → Prop) → Prop} (hs : PySem.code s = n) (hp : plainId s = true) (hB : entryFor table s = some B) (hF : ∀ l X, F l X → ∃ v, Gives (B ⟨l, []⟩) (.int v) ∧ X v) : CtOk w V (ctInt n F) := by
  intro c L q gs tk post hpre A Q h g d os hr H hQ
  obtain ⟨l, rfl, h1⟩ := kB_e s hs hpre
  obtain ⟨rfl, h2⟩ := k0_e h1
  obtain ⟨v, hg, hx⟩ := hF _ _ h2
  refine codeAny_builtin hB ?_
  rw [Around.under_plainId hp _]
  exact hg PW w A Q _ (hQ _ _ _ _ _ _ _ hx H.same)
noncomputable def TextEq (x y : Str) (V : Bool) : Prop := (x.cps.toList == y.cps.toList) = V
noncomputable def IntGt (a b : Int) (V : Bool) : Prop := decide (a > b) = V
noncomputable def Spc (x : Str) (V : Bool) : Prop := Txt.isspace x = V
noncomputable def kSS (l : List Value) (K : Str → Str → Prop) : Prop := k2 l fun v v' => kS v fun x _ => kS v' fun y _ => K x y
noncomputable def kII (l : List Value) (K : Int → Int → Prop) : Prop := k2 l fun v v' => kI v fun x _ => kI v' fun y _ => K x y
theorem kSS_e {l : List Value} {K : Str → Str → Prop} (h : kSS l K) : ∃ x t y u, l = [.str x t, .str y u] ∧ K x y := by
  have ⟨v, v', e, h⟩ := k2_e h
  have ⟨x, t, e1, h⟩ := kS_e h
  have ⟨y, u, e2, h⟩ := kS_e h
  exact ⟨x, t, y, u, by rw [e, e1, e2], h⟩
theorem kII_e {l : List Value} {K : Int → Int → Prop} (h : kII l K) : ∃ x t y u, l = [.int x t, .int y u] ∧ K x y := by
  have ⟨v, v', e, h⟩ := k2_e h
  have ⟨x, t, e1, h⟩ := kI_e h
  have ⟨y, u, e2, h⟩ := kI_e h
  exact ⟨x, t, y, u, by rw [e, e1, e2], h⟩
noncomputable def ctSpace (b : Bool) : Ct := ctPure 123784486205185586873202036 fun l X => k1 l fun v => kS v fun x _ => Spc x b ∧ X (.bool b)
noncomputable def ctGt (b : Bool) : Ct := ctPure 455126529904428302298986 fun l X => kII l fun x y => IntGt x y b ∧ X (.bool b)
noncomputable def ctEq (b : Bool) : Ct := ctPure 455126313168696234964340 fun l X => kSS l fun x y => TextEq x y b ∧ X (.bool b)
noncomputable def ctSub (z : Int) : Ct := ctInt 116512060628576343961202538 fun l X => kII l fun x y => x - y = z ∧ X z
section
variable (w : World) (V : Vol)
theorem ctSpace_ok (b : Bool) : CtOk w V (ctSpace b) := ctPure_ok w V (s := "str.isspace") (by decide +kernel) (by decide +kernel) PySem.F.entry_str_isspace fun l X h => by
  obtain ⟨v, rfl, h⟩ := k1_e h
  obtain ⟨x, t, rfl, h1, h2⟩ := kS_e h
  have := gives_str_isspace x t
  rw [show (decide (x.length > 0) && x.cps.all Unicode.isSpace) = b from h1] at this
  exact ⟨_, this, h2⟩
theorem ctGt_ok (b : Bool) : CtOk w V (ctGt b) := ctPure_ok w V (s := "int.__gt__") (by decide +kernel) (by decide +kernel) PySem.F.entry_int_gt fun l X h => by
  obtain ⟨x, t, y, u, rfl, h1, h2⟩ := kII_e h
  have := gives_int_gt x y t u
  rw [h1] at this
  exact ⟨_, this, h2⟩
theorem ctEq_ok (b : Bool) : CtOk w V (ctEq b) := ctPure_ok w V (s := "str.__eq__") (by decide +kernel) (by decide +kernel) PySem.F.entry_str_eq fun l X h => by
  obtain ⟨x, t, y, u, rfl, h1, h2⟩ := kSS_e h
  have := gives_str_eq x y t u
  rw [show (x.cps.toList == y.cps.toList) = b from h1] at this
  exact ⟨_, this, h2⟩
theorem ctSub_ok (z : Int) : CtOk w V (ctSub z) := ctInt_ok w V (s := "int.__sub__") (by decide +kernel) (by decide +kernel) PySem.F.entry_int_sub fun l X h => by
  obtain ⟨x, t, y, u, rfl, h1, h2⟩ := kII_e h
  exact ⟨_, h1 ▸ gives_int_sub x y t u, h2⟩
end
theorem den_builtin {id : String} {args : Args} {b : Builtin} (hb : entryFor table id = some b) : denote table (.builtin id args) = b args := by
  show (match entryFor table id with | some b => b args | none => .unsupported ((withoutEnding? id "#data").getD id)) = _
  rw [hb]
theorem own_opt {w : World} {A : Around} {R : Result → Shared → Prop} {c : Code} {s : Shared} {m : Sem (Option Value)} (hm : Mn w A R c .base (do let r ← m; match r with | some x => ret x | none => .unsupported "") s) :
    wpOwn (model PW w) A c m (fun r s' => ∃ x, r = some x ∧ R (.ok (.ret x)) s') (fun e s' => R (.error e) s') s := by
  intro Γ p hc hΓ
  have z := hm Γ p hc hΓ
  rw [Sem.wp_bind'] at z
  refine Sem.wp_mono _ _ _ (fun r p' s' y => ?_) (fun _ _ _ y => y) p s z
  cases r with
  | none => rw [Sem.wp_unsupported] at y; exact y.elim
  | some x => exact ⟨x, rfl, y⟩

noncomputable def tSp (nm : String) (v : Value) : Sem PySem.Fin := do
  let r ← zw9201129301070521445 v nm [] []
  match r with
  | some x => ret x
  | none => .unsupported ""
theorem sp_own {w : World} {V : Vol} {nm : String} {x : Ac} {v : Value} {lv lim : Nat} (hl : lim ≤ lv) {A : Around} {c : Code} {q : List (Nat × Obj)} {gs : List (Nat × Code)} {tk : Nat} {h : Heap} {g : Array GenState} {d : Drawn} {os : OsState} (hr : Room lv A) (H : Have w.params V h g (acL w.params x) q gs)
    {P : Value → Prop} (z : RunsT w V lim c (tSp nm v) (acL w.params x) q gs tk (h.objs.size - 247) g.size fun r tk' L' ns nq => ∃ y, r = .ok (.ret y) ∧ P y ∧ L' = ap w.params x x.xs x.ep ∧ ns = [] ∧ nq = []) :
    wpOwn (model PW w) A c (PySem.callSpecial? v nm [] []) (fun r s' => ∃ y, r = some y ∧ P y ∧ ∃ h' g' tk', s' = ⟨h', g', d, tk', os⟩ ∧ After V h (acL w.params x) q h' g' (ap w.params x x.xs x.ep) [] []) (fun _ _ => False) ⟨h, g, d, tk, os⟩ := by
  obtain ⟨hk, hc, hs, sl, sq, j, z⟩ := z
  have hm := run_mn (w := w) (V := V) (A := A) (os := os) (d := d) (Q := fun r s' => ∃ y, r = .ok (.ret y) ∧ P y ∧ ∃ h' g' tk', s' = ⟨h', g', d, tk', os⟩ ∧ After V h (acL w.params x) q h' g' (ap w.params x x.xs x.ep) [] []) hl hc hk hr H (fun r tk' L' ns nq h' g' ⟨y, e1, hp, e2, e3, e4⟩ Af => ⟨y, e1, hp, h', g', tk', rfl, by subst e2 e3 e4; exact Af⟩) z
  unfold tSp at hm
  rw [← ze9201129301070521445] at hm
  have hm := own_opt hm
  intro Γ p hc hΓ
  refine Sem.wp_mono _ _ _ (fun r p' s' y => ?_) (fun e p' s' y => ?_) p _ (hm Γ p hc hΓ)
  · obtain ⟨y, rfl, y', e, hy, hs⟩ := y
    cases e
    exact ⟨_, rfl, hy, hs⟩
  · obtain ⟨y, e, _⟩ := y
    cases e
noncomputable def leC (P : Params) (x : Ac) : Cl := ⟨.builtin "len" ⟨[.ref (x.a + 247)], []⟩, acL P x⟩
noncomputable def ctLenB (P : Params) (ps : List Part) (k : Nat) : Ct := mkC 60 (fun c L _ => acS L) (leC P) fun x q gs tk post =>
  AcOk ps x.xs q ∧ gs = [] ∧ x.iv + total ps = Int.ofNat k ∧ k ≤ 1000000 ∧ ∀ t tk' : Nat, post (.ok (.ret (.int (Int.ofNat k) t))) tk' (ap P x x.xs x.ep) [] []
theorem ctLenB_ok (w : World) (ps : List Part) (k : Nat) : CtOk w V0 (ctLenB w.params ps k) := mkC_by fun x q gs tk post hp A Q h g dr os hr H hQ => by
  obtain ⟨h1, rfl, hk, hkb, hq⟩ := hp
  have z : RunsT w V0 56 (.builtin "len" ⟨[.ref (x.a + 247)], []⟩) (tSp "__len__" (.ref (x.a + 247))) (acL w.params x) q [] tk (h.objs.size - 247) g.size fun r tk' L' ns nq => ∃ y, r = .ok (.ret y) ∧ (∃ t, y = .int (Int.ofNat k) t) ∧ L' = ap w.params x x.xs x.ep ∧ ns = [] ∧ nq = [] := by
    generalize hpost : (fun r tk' L' ns nq => ∃ y, r = .ok (.ret y) ∧ (∃ t, y = .int (Int.ofNat k) t) ∧ L' = ap w.params x x.xs x.ep ∧ ns = [] ∧ nq = [] : Post) = post'
    have h5 : ∀ t tk' : Nat, post' (.ok (.ret (.int (x.iv + total ps) t))) tk' (ap w.params x x.xs x.ep) [] [] := fun t tk' => by
      rw [← hpost, hk]
      exact ⟨_, rfl, ⟨t, rfl⟩, rfl, rfl, rfl⟩
    clear hq hQ hpost
    exact .go1 sub0 (c1 (ctLen_ok w ps)) [2,0,0,0,0,2,0,2,0,1] [] [] 0 (by kernel_rfl) (by kernel_rfl) (ai (r7 [x.1]) (ai (rf (acC w.params 184 ⟨x.a, x.d, x.xs, x.ep, x.kt, x.iv, x.it⟩ [] [])) (ai h1 (ai (rf ([] : List (Nat × Code))) (fun (t : Nat) (tk' : Nat) => fun (n' : Nat) (gz' : Nat) => ai (r7 []) (h5 t tk'))))))
  refine codeAny_of_Mn ?_
  show Mn w A Q (.builtin "len" ⟨[.ref (x.a + 247)], []⟩) .base (denote table (.builtin "len" ⟨[.ref (x.a + 247)], []⟩)) _
  rw [den_builtin PySem.entry_len]
  unfold Builtin.«len»
  show wpOwn _ _ _ (PySem.callSpecial? (.ref (x.a + 247)) "__len__" [] [] >>= _) _ _ _
  refine wpOwn_bind ?_
  intro Γ p hc hΓ
  refine Sem.wp_mono _ _ _ (fun r p' s' y => ?_) (fun e p' s' y => y.elim) p _ (sp_own (Nat.le_of_ble_eq_true rfl) hr H z Γ p hc hΓ)
  obtain ⟨y, rfl, ⟨t, rfl⟩, h', g', tk', rfl, Af⟩ := y
  refine wpOwn_of_wpAny ?_
  show wpAny _ _ (PySem.holding [.int (Int.ofNat k) t] (asIndex (.int (Int.ofNat k) t)) >>= _) _ _ _
  refine wpAny_bind (wpAny_holding (wpAny_of_eq (a := Int.ofNat k) rfl ?_))
  refine wpAny_bind (wpAny_letGo ?_)
  have h1 : ¬ (Int.ofNat k < 0) := by have : (Int.ofNat k) = (k : Int) := rfl; omega
  have h2 : ¬ (Int.ofNat k ≥ 2 ^ 63) := by have : (Int.ofNat k) = (k : Int) := rfl; omega
  rw [if_neg h1, if_neg h2]
  exact wpAny_bind (wpAny_mkInt (wpAny_pure (hQ _ _ _ _ _ _ _ (hq _ _) Af)))
noncomputable def stC (P : Params) (x : Ac) : Cl := ⟨.builtin "str.__new__" ⟨[.type "str", .ref (x.a + 247)], []⟩, acL P x⟩
noncomputable def ctStrB (P : Params) (ps : List Part) : Ct := mkC 60 (fun c L _ => acS L) (stC P) fun x q gs tk post =>
  AcOk ps x.xs q ∧ gs = [] ∧ ∀ t tk' : Nat, post (.ok (.ret (.str (textOf ps) t))) tk' (ap P x x.xs x.ep) [] []
theorem ctStrB_ok (w : World) (ps : List Part) : CtOk w V0 (ctStrB w.params ps) := mkC_by fun x q gs tk post hp A Q h g dr os hr H hQ => by
  obtain ⟨h1, rfl, hq⟩ := hp
  have z : RunsT w V0 56 (.builtin "str.__new__" ⟨[.type "str", .ref (x.a + 247)], []⟩) (tSp "__str__" (.ref (x.a + 247))) (acL w.params x) q [] tk (h.objs.size - 247) g.size fun r tk' L' ns nq => ∃ y, r = .ok (.ret y) ∧ (∃ t, y = .str (textOf ps) t) ∧ L' = ap w.params x x.xs x.ep ∧ ns = [] ∧ nq = [] := by
    generalize hpost : (fun r tk' L' ns nq => ∃ y, r = .ok (.ret y) ∧ (∃ t, y = .str (textOf ps) t) ∧ L' = ap w.params x x.xs x.ep ∧ ns = [] ∧ nq = [] : Post) = post'
    have h5 : ∀ t tk' : Nat, post' (.ok (.ret (.str (textOf ps) t))) tk' (ap w.params x x.xs x.ep) [] [] := fun t tk' => by
      rw [← hpost]
      exact ⟨_, rfl, ⟨t, rfl⟩, rfl, rfl, rfl⟩
    clear hq hQ hpost
    exact .go1 sub0 (c1 (ctStr_ok w ps)) [2,0,0,0,0,2,0,2,0,1] [] [] 0 (by kernel_rfl) (by kernel_rfl) (ai (r7 [x.1]) (ai (rf (acC w.params 191 ⟨x.a, x.d, x.xs, x.ep, x.kt, x.iv, x.it⟩ [] [])) (ai h1 (ai (rf ([] : List (Nat × Code))) (fun (t : Nat) (tk' : Nat) => fun (n' : Nat) (gz' : Nat) => ai (r7 []) (h5 t tk'))))))
  refine codeAny_of_Mn ?_
  show Mn w A Q (.builtin "str.__new__" ⟨[.type "str", .ref (x.a + 247)], []⟩) .base (denote table (.builtin "str.__new__" ⟨[.type "str", .ref (x.a + 247)], []⟩)) _
  rw [den_builtin PySem.F.entry_str_new, str_new_tree]
  refine wpOwn_bind (wpOwn_of_wpAny (wpAny_pure ?_))
  refine wpOwn_bind (wpOwn_of_wpAny (wpAny_of_eq isSubtype_str_str ?_))
  refine wpOwn_bind ?_
  unfold Builtin.Str.strOf
  show wpOwn _ _ _ (cRoomFor "str" [.ref (x.a + 247)] >>= _) _ _ _
  intro Γ p hc hΓ
  have hB : Rm ((arK A K.base).under (.builtin "str.__new__" ⟨[.type "str", .ref (x.a + 247)], []⟩)) := by
    have h1 := hr.depth
    have h2 := hr.units
    have h3 : (Code.builtin "str.__new__" ⟨[.type "str", .ref (x.a + 247)], []⟩).weight = 0 := plainId_weight (by decide +kernel) _
    have h4 : (Code.builtin "str.__new__" ⟨[.type "str", .ref (x.a + 247)], []⟩).cUnits = 1 := plainId_units (by decide +kernel) _
    exact ⟨by show A.depth + _ < _; rw [h3]; change A.depth + 60 ≤ 990 at h1; omega, by show A.units + _ < _; rw [h4]; change A.units + 5 * 60 ≤ 9700 at h2; omega⟩
  refine (Le.bind (Le.roomFor hB _ _) (fun _ => Le.refl _)) Γ p _ _ _ hc (hc ▸ hΓ.in) ?_
  rw [Sem.wp_bind']
  show wp _ _ (PySem.callSpecial? (.ref (x.a + 247)) "__str__" [] [] >>= _) _ _ _ _
  rw [Sem.wp_bind']
  refine Sem.wp_mono _ _ _ (fun r p' s' y => ?_) (fun e p' s' y => y.elim) p _ (sp_own (Nat.le_of_ble_eq_true rfl) hr H z Γ p hc hΓ)
  obtain ⟨y, rfl, ⟨t, rfl⟩, h', g', tk', rfl, Af⟩ := y
  have e : asStr? (.str (textOf ps) t) = pure (some (textOf ps)) := rfl
  simp only [e, pure_bind, Option.isNone_some, Bool.false_eq_true, if_false]
  rw [Sem.wp_pure']
  exact wpOwn_of_wpAny (wpAny_pure (hQ _ _ _ _ _ _ _ (hq _ _) Af))
noncomputable def ctCountN (P : Params) (m : Nat) : Ct := mkC 30 (fun c L _ => acS L) (fun x => acC P 214 x [] []) fun x q gs tk post =>
  x.xs.size = m ∧ ∀ tk' t : Nat, post (.ok (.ret (.int (Int.ofNat m) t))) tk' (ap P x x.xs x.ep) [] []
theorem ctCountN_ok (w : World) (V : Vol) (m : Nat) : CtOk w V (ctCountN w.params m) := mkC_ok 20 rfl fun x q gs tk post h n gz => by
  obtain ⟨rfl, h2⟩ := h
  exact .go sub0 c0 [0,4,4,0,1,0,0,0,0,0,4,0,0,0,0,0,0,5,5,0,5,0,0,2,2,0,5,5,5,5,5,5,5,5,0,5,0,5,5,5,0,0,0,0,2,0,6,0,6,0,2] [] [] 0 (by kernel_rfl) (ai (r7 [x.1,n + 2,n + 2,x.1,n + 1,n + 1,n + 1,n + 1,n + 1,n + 1,n + 1,n + 1,n + 1,n + 1,n + 1,n + 1,x.1,x.1,n + 1,n + 1,n + 1,n,n,n]) (h2 (tk + 3) (tk + 2)))
noncomputable def ctPopE (P : Params) : Ct := mkC 45 (fun c L _ => acS L) (fun x => acC P 177 x [] []) fun x q gs tk post =>
  x.xs.size = 0 ∧ ∀ tk' t t1 t2 : Nat, post (.ok (.ret (.ref (t + 247)))) tk' (ap P x x.xs x.ep) [] [(t + 247, tup2 (S "") t1 (S "") t2)]
theorem ctPopE_ok (w : World) (V : Vol) : CtOk w V (ctPopE w.params) := mkC_ok 42 rfl fun x q gs tk post h n gz => by
  have h1 := h.1
  have h2 := h.2
  exact .go1 sub0 (c1 (ctCountN_ok w V 0)) [0,4,4,0,1,4,2,0,0,0,2,0,0,0,2,0,0,0,0,2,3,0,2,0,2,0,1,0,0] [] [3] 0 (by kernel_rfl) (by kernel_rfl) (ai (r7 [x.2,x.1,x.1,x.1,x.1,n,n,n]) (ai (rf (acC w.params 214 ⟨x.a, x.d, x.xs, x.ep, x.kt, x.iv, x.it⟩ [] [])) (ai h1 (fun (tk' : Nat) (t : Nat) => fun (n' : Nat) (gz' : Nat) => ai (r7 []) (h2 (tk' + 3) n' (tk' + 1) (tk' + 2))))))
noncomputable def ctPopS (P : Params) (ys : Array Value) (t : Nat) : Ct := mkC 45 (fun c L _ => acS L) (fun x => acC P 177 x [] []) fun x q gs tk post =>
  x.xs = ys.push (.ref (t + 247)) ∧ ys.size ≤ 1000 ∧ ∀ tk' ep' : Nat, post (.ok (.ret (.ref (t + 247)))) tk' (ap P x ys ep') [] []
theorem ctPopS_ok (w : World) (V : Vol) (ys : Array Value) (t : Nat) : CtOk w V (ctPopS w.params ys t) := mkC_ok 42 rfl fun x q gs tk post h n gz => by
  have h1 := h.1
  have h2 := m6 h.2.1 rfl
  have h3 := h.2.2
  have h4 : x.xs.size = ys.size + 1 := by rw [h1, Array.size_push]
  exact .go1 sub0 (cC (ctCountN_ok w V (ys.size + 1)) (c1 (ctPop_ok w V ys (.ref (t + 247))))) [0,4,4,0,1,4,2,0,0,0,2,0,0,0,2,0,0,0,0,2,3,0,2,0,2,0,1,0,0,0,0,0,0,0,4,0,0,0,0,0,0,5,5,0,5,0,0,2,2,0,5,5,5,5,5,5,5,5,0,5,0,5,5,5,0,0,0,0,2,0,6,0,6,2,0,2,2,0,0,2,1,1,0] [] [] 0 (by kernel_rfl) (by kernel_rfl) (ai (r7 [x.2,x.1,x.1,x.1,x.1,n,n,n]) (ai (rf (acC w.params 214 ⟨x.a, x.d, x.xs, x.ep, x.kt, x.iv, x.it⟩ [] [])) (ai h4 (fun (tk' : Nat) (t1 : Nat) => fun (n' : Nat) (gz' : Nat) => ai (r7 [x.1,x.1,x.1,n' + 1,n' + 1,x.1,n',n',n',n',n',n',n',n',n',n',n',n',x.1,x.1,n',n',n',n]) (ai (rf (x.a + 247)) (ai h1 (ai h2 (fun (ep' : Nat) (n'1 : Nat) => fun (gz'1 : Nat) => ai (r7 []) (h3 (tk' + 2) ep')))))))))
end
end Mine

namespace Mine
open PySem PySem.W PySem.W.X
noncomputable section
noncomputable def ctWsH (P : Params) (k : Nat) : Ct := mkC 90 (fun c L _ => acS L) (fun x => acC P 206 x [] []) fun x q gs tk post =>
  x.iv = Int.ofNat (k + 1) ∧ gs = [] ∧ ∀ tk' : Nat, post (.ok (.ret (.bool false))) tk' (ap P x x.xs x.ep) [] []
theorem ctWsH_ok (w : World) (k : Nat) : CtOk w V0 (ctWsH w.params k) := mkC_ok 84 rfl fun x q gs tk post h n gz => by
  obtain ⟨a, d, xs, ep, kt, iv, it⟩ := x
  obtain ⟨rfl, rfl, h3⟩ := h
  exact .go1 sub0 c0 [0,4,4,0,1,4,2,0,0,0,0,0,0,0,2,0,0,2,0,0,0,2,2,0,3,0,0] [] [] 0 (by kernel_rfl) (by kernel_rfl) (ai (r7 [d,a,a,a,a,a,n,n,n]) (h3 (tk + 3)))
noncomputable def ctWsT (P : Params) (ps : List Part) (k : Nat) : Ct := mkC 90 (fun c L _ => acS L) (fun x => acC P 206 x [] []) fun x q gs tk post =>
  x.iv = 0 ∧ AcOk ps x.xs q ∧ Spc (textOf ps) false ∧ total ps = Int.ofNat (k + 1) ∧ k + 1 ≤ 1000000 ∧ gs = [] ∧ ∀ tk' : Nat, post (.ok (.ret (.bool false))) tk' (ap P x x.xs x.ep) [] []
theorem ctWsT_ok (w : World) (ps : List Part) (k : Nat) : CtOk w V0 (ctWsT w.params ps k) := mkC_ok 84 rfl fun x q gs tk post h n gz => by
  obtain ⟨a, d, xs, ep, kt, iv, it⟩ := x
  obtain ⟨rfl, h1, h2, h3, h4, rfl, h6⟩ := h
  have h5 : (0 : Int) + total ps = Int.ofNat (k + 1) := by rw [h3, Int.zero_add]
  exact .go1 sub0 (cC (ctLenB_ok w ps (k + 1)) (cC (ctStrB_ok w ps) (c1 (ctSpace_ok w V0 false)))) [0,4,4,0,1,4,2,0,0,0,0,0,0,0,2,0,0,2,0,0,0,2,2,0,3,0,0,4,2,0,0,0,2,0,0,0,2,0,2,0,1,0,0,4,0,0,0,2,1,2,0,1,0,0,0,2,2,0] [] [] 0 (by kernel_rfl) (by kernel_rfl) (ai (r7 [a,a,n,d,a,a,a,a,a,n,n,n]) (ai (rf (leC w.params ⟨a, d, xs, ep, kt, 0, it⟩)) (ai h1 (ai (rf ([] : List (Nat × Code))) (ai h5 (ai h4 (fun (t : Nat) (tk' : Nat) => fun (n' : Nat) (gz' : Nat) => ai (r7 [n]) (ai (rf (stC w.params ⟨a, d, xs, ep, kt, 0, it⟩)) (ai h1 (ai (rf ([] : List (Nat × Code))) (fun (t1 : Nat) (tk'1 : Nat) => fun (n'1 : Nat) (gz'1 : Nat) => ai (r7 []) (ai h2 (fun (n'2 : Nat) (gz'2 : Nat) => ai (r7 []) (h6 tk'1))))))))))))))
noncomputable def WsF (ps : List Part) (iv : Int) : Prop := (∃ k : Nat, iv = Int.ofNat (k + 1)) ∨ (iv = 0 ∧ Spc (textOf ps) false ∧ ∃ k : Nat, total ps = Int.ofNat (k + 1) ∧ k + 1 ≤ 1000000)
noncomputable def ctWs (P : Params) (ps : List Part) : Ct := mkC 90 (fun c L _ => acS L) (fun x => acC P 206 x [] []) fun x q gs tk post =>
  AcOk ps x.xs q ∧ WsF ps x.iv ∧ gs = [] ∧ ∀ tk' : Nat, post (.ok (.ret (.bool false))) tk' (ap P x x.xs x.ep) [] []
theorem ctWs_ok (w : World) (ps : List Part) : CtOk w V0 (ctWs w.params ps) := fun c L q gs tk post ⟨e, h1, h2, h3, h4⟩ => by
  rcases h2 with ⟨k, h2⟩ | ⟨h2, h5, k, h6, h7⟩
  · exact ctWsH_ok w k c L q gs tk post ⟨e, h2, h3, h4⟩
  · exact ctWsT_ok w ps k c L q gs tk post ⟨e, h2, h1, h5, h6, h7, h3, h4⟩
noncomputable def TupIn (t : Nat) (f p : Str) (q : List (Nat × Obj)) : Prop := ∃ ft pt, (t, tup2 f ft p pt) ∈ q
theorem TupIn.hd {t : Nat} {f p : Str} {ft pt : Nat} {q : List (Nat × Obj)} : TupIn t f p ((t, tup2 f ft p pt) :: q) := ⟨ft, pt, List.mem_cons_self ..⟩
noncomputable def NeqT (f p f2 p2 : Str) : Prop := ¬ (f = f2 ∧ p = p2)
noncomputable def ctIadd (f p : Str) : Ct := ⟨4, fun c L q gs tk post => sRV 7635736742594467534504881056365 c L fun a v xs F => kR v fun t => xs.size ≤ 1000 ∧ TupIn t f p q ∧ ∀ ep' ft pt : Nat, post (.ok (.ret (.ref a))) tk [F (xs ++ #[.str f ft, .str p pt]) ep'] [] []⟩
theorem ctIadd_ok (w : World) (V : Vol) (f p : Str) : CtOk w V (ctIadd f p) := by
  intro c L q gs tk post hp A Q h g d os hr H hQ
  dsimp only [ctIadd] at hp
  replace hp := sRV_e "list.__iadd__" (by decide +kernel) hp
  obtain ⟨x', v, k, xs, rfl, rfl, hp⟩ := hp
  replace hp := kR_e hp
  obtain ⟨t, rfl, hsz, ⟨ft, pt, ht⟩, hp⟩ := hp
  have ho := H.has _ (List.mem_cons_self ..)
  have hto := H.gh _ ht
  have hne : x' ≠ t := fun e => hto.2.1 (by rw [← e]; exact List.mem_cons_self ..)
  have hT : (⟨h, g, d, tk, os⟩ : Shared).TypeIs (.ref t) "tuple" := ⟨_, hto.1, rfl⟩
  refine codeAny_builtin PySem.F.entry_list_iadd ?_
  show wpAny _ _ (Builtin.List.listExtendWith (.ref x') (.ref t) (.ref x')) _ _ _
  unfold Builtin.List.listExtendWith
  refine wpAny_bind (wpAny_typeOf hT ?_)
  rw [if_pos (by simp)]
  refine wpAny_bind (m := Builtin.List.listItems (.ref t)) ?_
  unfold Builtin.List.listItems
  refine wpAny_bind (wpAny_seqItems hto.1 rfl (wpAny_pure ?_))
  refine wpAny_bind (wpAny_bind (wpAny_seqItems ho rfl (wpAny_pure ?_)))
  have h24 : sizeLine = 16777216 := rfl
  have hl : Builtin.List.listTooLong (xs.size + 2) = false := by
    unfold Builtin.List.listTooLong
    simp only [decide_eq_false_iff_not]
    omega
  have hl' : ¬ ((!xs.isEmpty && Builtin.List.listTooLong (xs.size + [Value.str f ft, Value.str p pt].toArray.size)) = true) := by
    show ¬ ((!xs.isEmpty && Builtin.List.listTooLong (xs.size + 2)) = true)
    rw [hl, Bool.and_false]
    exact Bool.false_ne_true
  rw [if_neg hl']
  refine wpAny_bind (m := Builtin.List.listUpdate (.ref x') _) ?_
  show wpAny _ _ (updateSeq x' _) _ _ _
  exact wpAny_updateSeq ho rfl (wpAny_pure (hQ _ _ _ _ _ _ _ (hp _ ft pt) (H.upd (f := Obj.mapSeq fun xs' => xs' ++ [Value.str f ft, Value.str p pt].toArray) rfl))) (by omega) (by rw [Array.size_append]; show xs.size + 2 ≤ _; omega)
noncomputable def ctTupNe (f p : Str) : Ct := ⟨4, fun c L q gs tk post => kB 29827101557446578626297427573 c fun l => k2 l fun v v' => kR v fun t => kR v' fun u => k1 L fun y => y.1 = u ∧ TupIn t f p q ∧ (y.2 = tup2 (vS (atV (oFld y.2) 0)) (vT (atV (oFld y.2) 0)) (vS (atV (oFld y.2) 1)) (vT (atV (oFld y.2) 1)) ∧ NeqT f p (vS (atV (oFld y.2) 0)) (vS (atV (oFld y.2) 1)) ∧ post (.ok (.ret (.bool true))) tk [y.2] [] [])⟩
theorem ctTupNe_ok (w : World) (V : Vol) (f p : Str) : CtOk w V (ctTupNe f p) := by
  intro c L q gs tk post hp A Q h g d os hr H hQ
  have ⟨l, e0, h1⟩ := kB_e "tuple.__ne__" (by decide +kernel) hp
  have ⟨v, v', e1, h1⟩ := k2_e h1
  have ⟨t, e2, h1⟩ := kR_e h1
  have ⟨u', e3, h1⟩ := kR_e h1
  have ⟨y, e4, e5, ⟨ft, pt, ht⟩, e6, hne, hp2⟩ := k1_e h1
  clear hp h1
  generalize vS (atV (oFld y.2) 0) = f2 at e6 hne
  generalize vT (atV (oFld y.2) 0) = ft2 at e6
  generalize vS (atV (oFld y.2) 1) = p2 at e6 hne
  generalize vT (atV (oFld y.2) 1) = pt2 at e6
  obtain ⟨u, uo⟩ := y
  dsimp only at e5 e6 hp2
  subst e0 e1 e2 e3 e4 e5 e6
  have ho := H.has _ (List.mem_cons_self ..)
  have hto := H.gh _ ht
  refine codeAny_builtin PySem.F.entry_tuple_ne ?_
  rw [Around.under_plainId (by decide +kernel) _]
  refine PySem.SeqAt.tuple_neAt t u #[.str f ft, .str p pt] #[.str f2 ft2, .str p2 pt2] 0 0 none none #[] #[] (fun j => match j with | 0 => decide (f = f2) | _ => decide (p = p2)) PW w A Q _ ⟨hto.1, ho, ?_, ?_⟩
  · intro j h1 h2
    match j, h1, h2 with
    | 0, _, _ => exact fun prog w E Q hq => wpAny_eqBool_str hq
    | 1, _, _ => exact fun prog w E Q hq => wpAny_eqBool_str hq
    | j + 2, h1, _ => exact absurd h1 (by simp)
  · have : (!((List.range (min (#[Value.str f ft, Value.str p pt]).size (#[Value.str f2 ft2, Value.str p2 pt2]).size)).all (fun j => match j with | 0 => decide (f = f2) | _ => decide (p = p2)) && (#[Value.str f ft, Value.str p pt]).size == (#[Value.str f2 ft2, Value.str p2 pt2]).size)) = true := by
      show (!((List.range 2).all (fun j => match j with | 0 => decide (f = f2) | _ => decide (p = p2)) && true)) = true
      simp only [Bool.and_true, Bool.not_eq_true']
      rw [List.all_eq_false]
      by_cases h1 : f = f2
      · exact ⟨1, by simp, by simp; exact fun x => hne ⟨h1, x⟩⟩
      · exact ⟨0, by simp, by simpa using h1⟩
    rw [this]
    exact hQ _ _ _ _ _ _ _ hp2 H.same
theorem itemsOf_push (ps : List Part) (x : Part) : itemsOf (ps ++ [x]) = (itemsOf ps).push (.ref x.addr) := by simp [itemsOf]
theorem total_snoc (ps : List Part) (x : Part) : total (ps ++ [x]) = total ps + ((x.f.length + x.p.length : Nat) : Int) := by
  unfold total
  rw [List.map_append, List.sum_append]
  simp
theorem total_nonneg : ∀ ps : List Part, 0 ≤ total ps
  | [] => by simp [total]
  | x :: ps => by
    have := total_nonneg ps
    unfold total at this ⊢
    rw [List.map_cons, List.sum_cons]
    omega
theorem total_le : ∀ ps : List Part, (∀ x ∈ ps, x.f.length ≤ 1000 ∧ x.p.length ≤ 1000) → total ps ≤ 2000 * ps.length
  | [], _ => by simp [total]
  | x :: ps, h => by
    have := total_le ps fun y hy => h y (List.mem_cons_of_mem _ hy)
    have h1 := h x (List.mem_cons_self ..)
    unfold total at this ⊢
    rw [List.map_cons, List.sum_cons, List.length_cons]
    omega
theorem ne_empty {p : Str} (h : p ≠ S "") : 1 ≤ p.length := by
  cases p with
  | mk c =>
    rcases Nat.eq_zero_or_pos c.size with e | e
    · exfalso
      apply h
      rw [Array.size_eq_zero_iff.mp e]
      rfl
    · exact e
inductive NewlOk (ps : List Part) (iv : Int) : Str → Prop
  | head (k : Nat) : ps = [] → iv = Int.ofNat (k + 1) → k + 1 ≤ 1000 → NewlOk ps iv (S "")
  | lineH (ps0 : List Part) (x : Part) (k : Nat) : ps = ps0 ++ [x] → x.p ≠ S "" → iv = Int.ofNat (k + 1) → k + 1 ≤ 1000 → NewlOk ps iv (textOf ps)
  | lineT (ps0 : List Part) (x : Part) : ps = ps0 ++ [x] → x.p ≠ S "" → iv = 0 → Txt.isspace (textOf ps) = false → NewlOk ps iv (textOf ps)
theorem Like.snoc {ps ps0 : List Part} {x : Part} (h : Like ps (ps0 ++ [x])) : ∃ qs y, ps = qs ++ [y] ∧ Like qs ps0 ∧ y.f = x.f ∧ y.p = x.p := by
  unfold Like at h
  rw [List.map_append] at h
  obtain ⟨qs, r, e, h1, h2⟩ := List.map_eq_append_iff.mp h
  obtain ⟨y, e', h3⟩ := List.map_eq_singleton_iff.mp h2
  subst e'
  exact ⟨qs, y, e, h1, congrArg Prod.fst h3, congrArg Prod.snd h3⟩
theorem Like.push {qs ps : List Part} {y x : Part} (h : Like qs ps) (h1 : y.f = x.f) (h2 : y.p = x.p) : Like (qs ++ [y]) (ps ++ [x]) := by
  unfold Like at h ⊢
  rw [List.map_append, List.map_append, h, List.map_singleton, List.map_singleton, h1, h2]
theorem Known.more {ps : List Part} {q : List (Nat × Obj)} (h : Known ps q) (p : Nat × Obj) : Known ps (p :: q) := fun x hx => ⟨List.mem_cons_of_mem _ (h x hx).1, (h x hx).2⟩
theorem AcOk.push {ps qs : List Part} {x : Part} {q : List (Nat × Obj)} (hs : Small (ps ++ [x])) (hk : Known qs q) (hl : Like qs ps) {t ft pt : Nat} : AcOk (ps ++ [x]) ((itemsOf qs).push (.ref (t + 247))) ((t + 247, tup2 x.f ft x.p pt) :: q) :=
  ⟨hs, qs ++ [⟨t + 247, x.f, ft, x.p, pt⟩], (itemsOf_push qs ⟨t + 247, x.f, ft, x.p, pt⟩).symm, fun z hz => by
    rcases List.mem_append.mp hz with hz | hz
    · exact (hk.more _) z hz
    · rw [List.mem_singleton.mp hz]; exact ⟨List.mem_cons_self .., Nat.le_add_left ..⟩, hl.push rfl rfl⟩
theorem total_pos {ps0 : List Part} {x : Part} (hs : Small (ps0 ++ [x])) (hx : x.p ≠ S "") : ∃ K : Nat, total (ps0 ++ [x]) = Int.ofNat (K + 1) ∧ K + 1 ≤ 200000 := by
  have h1 := total_nonneg ps0
  have h2 := total_le _ hs.2
  have h3 := hs.1
  have h4 := ne_empty hx
  have h5 := total_snoc ps0 x
  refine ⟨(total (ps0 ++ [x])).toNat - 1, ?_, ?_⟩
  · show _ = (((total (ps0 ++ [x])).toNat - 1 + 1 : Nat) : Int)
    omega
  · omega
noncomputable def VfIn (P : Params) (s l a : Nat) (mx : Int) (sc : Str) (q : List (Nat × Obj)) : Prop := ∃ ds τ, (s, vfO (ds + 247)) ∈ q ∧ (ds + 247, vfD P τ mx sc l a) ∈ q
noncomputable def VfAny (P : Params) (s l a : Nat) (q : List (Nat × Obj)) : Prop := ∃ mx sc, VfIn P s l a mx sc q
structure Fm where
  s : Nat
  l : Nat
  ls : Array Value
  el : Nat
  x : Ac
noncomputable def fmL (P : Params) (y : Fm) : List (Nat × Obj) := (y.l + 247, lstO y.ls y.el) :: acL P y.x
noncomputable def fmS (c : Code) (L : List (Nat × Obj)) : Fm := ⟨vA (arg c 0), lA L 0, oSeq (lO L 0), oEp (lO L 0), acS (L.drop 1)⟩
noncomputable def fmC (P : Params) (f : Nat) (y : Fm) (l : List Value) : Cl := ⟨.call (.ref f) ⟨.ref (y.s + 247) :: l, []⟩, fmL P y⟩
noncomputable def ctNewl (P : Params) (ps : List Part) (txt : Str) : Ct := mkC 130 (fun c L _ => fmS c L) (fun y => fmC P 95 y []) fun y q gs tk post =>
  VfAny P (y.s + 247) (y.l + 247) (y.x.a + 247) q ∧ y.ls.size ≤ 1000 ∧ AcOk ps y.x.xs q ∧ NewlOk ps y.x.iv txt ∧ gs = [] ∧
    ∀ tk' epl' ep' t' tt : Nat, post (.ok (.ret .none)) tk' [lstO (y.ls.push (.str txt tt)) epl', accO (y.x.d + 247) #[] ep', accD P y.x.kt 0 t'] [] []
section
variable (w : World) {y : Fm} {q : List (Nat × Obj)} {tk n gz : Nat} {post : Post} {ds : Nat} {τ : Nat → Nat} {mx : Int} {sc : Str} (hs : (y.s + 247, vfO (ds + 247)) ∈ q) (hd : (ds + 247, vfD w.params τ mx sc (y.l + 247) (y.x.a + 247)) ∈ q) (hl : y.ls.size ≤ 1000000)
include hs hd hl
theorem newlE {ps : List Part} {f p : Str} {K : Nat} (hw : WsF ps y.x.iv) (hT : y.x.iv + total ps = Int.ofNat (K + 1)) (hK : K + 1 ≤ 1000000) (hz : y.x.xs.size = 0) (ef : f = S "") (ep : p = S "")
    (e0 : ∀ t ft pt q', AcOk ps (y.x.xs.push (.ref (t + 247))) ((t + 247, tup2 f ft p pt) :: q'))
    (hq : ∀ tk' epl' ep' t' tt : Nat, post (.ok (.ret .none)) tk' [lstO (y.ls.push (.str (textOf ps) tt)) epl', accO (y.x.d + 247) #[] ep', accD w.params y.x.kt 0 t'] [] []) :
    Runs w V0 120 (fmC w.params 95 y []).c (fmC w.params 95 y []).L q [] tk n gz post := by
  subst ef ep
  have t0 := Nat.zero_le 1000
  have t1 := fun (t ft pt : Nat) (f p : Str) (q : List (Nat × Obj)) => @TupIn.hd t f p ft pt q
  have t2 : NeqT (S "") (S "") (S " ") (S "") := fun h => absurd h.1 (by decide)
  have t3 : ∀ v, (y.x.xs.push v).size ≤ 100000 := fun v => by rw [Array.size_push, hz]; decide
  exact .go1 (subC hs (subC hd sub0)) (cC (ctPopE_ok w V0) <| cC (ctPush_ok w V0) <| cC (ctLenB_ok w ps (K + 1)) <| cC (ctWs_ok w ps) <| cC (ctStrB_ok w ps) <| cC (ctReset0_ok w V0) <| cC (ctApp_ok w V0) <| cC (ctIadd_ok w V0 (S "") (S "")) <| c1 (ctTupNe_ok w V0 (S "") (S ""))) [0,5,5,0,1,5,1,0,0,0,0,0,1,0,0,0,0,1,0,1,0,0,1,1,3,0,0,0,3,0,0,0,3,0,0,0,0,3,4,0,2,0,2,1,2,5,5,5,1,100,6,1,100,0,1,100,2,8,1,4,5,1,0,0,0,0,0,1,0,0,0,0,1,0,1,0,0,1,1,3,0,0,0,0,0,0,0,3,0,0,3,0,0,0,0,0,0,3,3,0,4,0,0,0,5,1,100,0,2,7,1,6,8,7,0,0,7,2,1,2,1,2,0,0,5,1,0,0,0,0,0,1,0,0,0,0,1,0,1,0,0,1,1,0,2,2,2,1,2,0,0,5,1,0,0,0,0,0,1,0,0,0,0,1,0,1,0,0,1,1,3,0,0,0,3,0,0,0,3,0,0,0,0,3,4,0,2,3,2,1,2,5,1,0,0,0,0,0,1,0,0,0,0,1,0,1,0,0,1,1,2,2,2,2,0,0,5,1,0,0,0,0,0,1,0,0,0,0,1,0,1,0,0,1,1,0,0,0,2,4,2,1,2,0,0,0,2,2,6,1,0,5,1,0,0,0,0,0,1,0,0,0,0,1,0,1,0,0,1,1,3,0,0,0,3,0,0,0,3,0,0,0,0,3,4,0,2,5,2,1,2] [] [] 0 (by kernel_rfl) (by kernel_rfl) (ai (r7 [y.x.2,y.x.1,y.x.1,y.x.1,y.x.1,ds,y.1,y.1,y.1,y.1,n,n,n]) (ai (rf (acC w.params 177 y.x [] [])) (ai hz (fun (tk' : Nat) (t t11 t21 : Nat) => fun (n' : Nat) (gz' : Nat) => ai (r7 [t,t,n',t,n,n,n]) (ai (rf (n' + 247)) (ai (t1 (t + 247) t11 t21 (S "") (S "") ([].append q)) (ai (rf ({ cls := Value.type "tuple", data := Data.seq #[Value.str (S " ") (tk' + 1), Value.str (S "") (tk' + 2)] } : Obj)) (ai t2 (fun (n'1 : Nat) (gz'1 : Nat) => ai (r7 [t,n,y.x.2,y.x.1,y.x.1,y.x.1,y.x.1,y.x.1,ds,y.1,y.1,y.1,y.1,n]) (ai (rf (n'1 + 248)) (ai t0 (ai (t1 (t + 247) t11 t21 (S "") (S "") ([].append q)) (fun (ep' : Nat) (ft pt : Nat) => fun (n'2 : Nat) (gz'2 : Nat) => ai (r7 [n'1,n'1,n'1 + 1]) (ai (rf (puC w.params (({ a := y.x.a, d := y.x.d, xs := y.x.xs, ep := y.x.ep, kt := y.x.kt, iv := y.x.iv, it := y.x.it }, S "", ft, S "", pt)))) (ai (by omega : y.x.xs.size ≤ 100000) (fun (tk'1 : Nat) (ep'1 : Nat) => fun (t4 : Nat) (n'3 : Nat) => fun (gz'3 : Nat) => ai (r7 [ds,y.1,y.1,y.1,y.1,n]) (ai (rf (leC w.params ⟨y.x.a, y.x.d, y.x.xs.push (Value.ref (t4 + 247)), ep'1, y.x.kt, y.x.iv, y.x.it⟩)) (ai (e0 t4 ft pt ([].append ([(t + 247, { cls := Value.type "tuple", data := Data.seq #[Value.str (S "") t11, Value.str (S "") t21] })] ++ q))) (ai (rf ([] : List (Nat × Code))) (ai hT (ai hK (fun (t5 : Nat) (tk'2 : Nat) => fun (n'4 : Nat) (gz'4 : Nat) => ai (r7 [y.x.2,y.x.1,y.x.1,y.x.1,y.x.1,ds,y.1,y.1,y.1,y.1,n]) (ai (rf (acC w.params 206 ⟨y.x.a, y.x.d, y.x.xs.push (Value.ref (t4 + 247)), ep'1, y.x.kt, y.x.iv, y.x.it⟩ [] [])) (ai (e0 t4 ft pt ([].append ([(t + 247, { cls := Value.type "tuple", data := Data.seq #[Value.str (S "") t11, Value.str (S "") t21] })] ++ q))) (ai hw (ai (rf ([] : List (Nat × Code))) (fun (tk'3 : Nat) (n'5 : Nat) => fun (gz'5 : Nat) => ai (r7 [ds,y.1,y.1,y.1,y.1,n,y.2,y.2,y.2,y.2,ds,y.1,y.1,y.1,y.1,n]) (ai (rf (stC w.params ⟨y.x.a, y.x.d, y.x.xs.push (Value.ref (t4 + 247)), ep'1, y.x.kt, y.x.iv, y.x.it⟩)) (ai (e0 t4 ft pt ([].append ([(t + 247, { cls := Value.type "tuple", data := Data.seq #[Value.str (S "") t11, Value.str (S "") t21] })] ++ q))) (ai (rf ([] : List (Nat × Code))) (fun (t6 : Nat) (tk'4 : Nat) => fun (n'6 : Nat) (gz'6 : Nat) => ai (r7 [y.2]) (ai (rf (y.l + 247)) (ai hl (fun (ep'2 : Nat) (n'7 : Nat) => fun (gz'7 : Nat) => ai (r7 [y.x.2,y.x.1,y.x.1,y.x.1,y.x.1,ds,y.1,y.1,y.1,y.1,n]) (ai (rf (acC w.params 199 ⟨y.x.a, y.x.d, y.x.xs.push (Value.ref (t4 + 247)), ep'1, y.x.kt, y.x.iv, y.x.it⟩ [] [])) (ai (t3 (Value.ref (t4 + 247))) (fun (tk'5 : Nat) (ep'3 : Nat) => fun (t' : Nat) (n'8 : Nat) => fun (gz'8 : Nat) => ai (r7 []) (hq tk'5 ep'2 ep'3 t' t6))))))))))))))))))))))))))))))))))))))
theorem newlS {ps : List Part} {f p : Str} {ft pt K t0 : Nat} {ys : Array Value} (hw : WsF ps y.x.iv) (hT : y.x.iv + total ps = Int.ofNat (K + 1)) (hK : K + 1 ≤ 1000000) (hx : y.x.xs = ys.push (.ref (t0 + 247))) (hz : ys.size ≤ 1000) (ht : (t0 + 247, tup2 f ft p pt) ∈ q) (ti : TupIn (t0 + 247) f p q) (tn : NeqT f p (S " ") (S ""))
    (e0 : ∀ t ft pt, AcOk ps (ys.push (.ref (t + 247))) ((t + 247, tup2 f ft p pt) :: q))
    (hq : ∀ tk' epl' ep' t' tt : Nat, post (.ok (.ret .none)) tk' [lstO (y.ls.push (.str (textOf ps) tt)) epl', accO (y.x.d + 247) #[] ep', accD w.params y.x.kt 0 t'] [] []) :
    Runs w V0 120 (fmC w.params 95 y []).c (fmC w.params 95 y []).L q [] tk n gz post := by
  have z0 := Nat.zero_le 1000
  have t3 : ∀ v, (ys.push v).size ≤ 100000 := fun v => by rw [Array.size_push]; omega
  exact .go1 (subC hs (subC hd (subC ht sub0))) (cC (ctPopS_ok w V0 ys t0) <| cC (ctPush_ok w V0) <| cC (ctLenB_ok w ps (K + 1)) <| cC (ctWs_ok w ps) <| cC (ctStrB_ok w ps) <| cC (ctReset0_ok w V0) <| cC (ctApp_ok w V0) <| cC (ctIadd_ok w V0 f p) <| c1 (ctTupNe_ok w V0 f p)) [0,5,5,0,1,5,1,0,0,0,0,0,1,0,0,0,0,1,0,1,0,0,1,1,3,0,0,0,3,0,0,0,3,0,0,0,0,3,4,0,2,0,2,1,2,5,5,5,1,2,6,1,2,0,1,2,2,8,1,4,5,1,0,0,0,0,0,1,0,0,0,0,1,0,1,0,0,1,1,3,0,0,0,0,0,0,0,3,0,0,3,0,0,0,0,0,0,3,3,0,4,0,0,0,5,1,2,0,2,7,1,6,8,7,0,0,7,2,1,2,1,2,0,0,5,1,0,0,0,0,0,1,0,0,0,0,1,0,1,0,0,1,1,0,2,2,2,1,2,0,0,5,1,0,0,0,0,0,1,0,0,0,0,1,0,1,0,0,1,1,3,0,0,0,3,0,0,0,3,0,0,0,0,3,4,0,2,3,2,1,2,5,1,0,0,0,0,0,1,0,0,0,0,1,0,1,0,0,1,1,2,2,2,2,0,0,5,1,0,0,0,0,0,1,0,0,0,0,1,0,1,0,0,1,1,0,0,0,2,4,2,1,2,0,0,0,2,2,6,1,0,5,1,0,0,0,0,0,1,0,0,0,0,1,0,1,0,0,1,1,3,0,0,0,3,0,0,0,3,0,0,0,0,3,4,0,2,5,2,1,2] [] [] 0 (by kernel_rfl) (by kernel_rfl) (ai (r7 [y.x.2,y.x.1,y.x.1,y.x.1,y.x.1,ds,y.1,y.1,y.1,y.1,n,n,n]) (ai (rf (acC w.params 177 y.x [] [])) (ai hx (ai hz (fun (tk' : Nat) (ep' : Nat) => fun (n' : Nat) (gz' : Nat) => ai (r7 [t0,t0,n',t0,n,n,n]) (ai (rf (n' + 247)) (ai ti (ai (rf ({ cls := Value.type "tuple", data := Data.seq #[Value.str (S " ") (tk' + 1), Value.str (S "") (tk' + 2)] } : Obj)) (ai tn (fun (n'1 : Nat) (gz'1 : Nat) => ai (r7 [t0,n,y.x.2,y.x.1,y.x.1,y.x.1,y.x.1,y.x.1,ds,y.1,y.1,y.1,y.1,n]) (ai (rf (n'1 + 248)) (ai z0 (ai ti (fun (ep'1 : Nat) (ft1 pt1 : Nat) => fun (n'2 : Nat) (gz'2 : Nat) => ai (r7 [n'1,n'1,n'1 + 1]) (ai (rf (puC w.params (({ a := y.x.a, d := y.x.d, xs := ys, ep := ep', kt := y.x.kt, iv := y.x.iv, it := y.x.it }, f, ft1, p, pt1)))) (ai (by omega : ys.size ≤ 100000) (fun (tk'1 : Nat) (ep'2 : Nat) => fun (t : Nat) (n'3 : Nat) => fun (gz'3 : Nat) => ai (r7 [ds,y.1,y.1,y.1,y.1,n]) (ai (rf (leC w.params ⟨y.x.a, y.x.d, ys.push (Value.ref (t + 247)), ep'2, y.x.kt, y.x.iv, y.x.it⟩)) (ai (e0 t ft1 pt1) (ai (rf ([] : List (Nat × Code))) (ai hT (ai hK (fun (t1 : Nat) (tk'2 : Nat) => fun (n'4 : Nat) (gz'4 : Nat) => ai (r7 [y.x.2,y.x.1,y.x.1,y.x.1,y.x.1,ds,y.1,y.1,y.1,y.1,n]) (ai (rf (acC w.params 206 ⟨y.x.a, y.x.d, ys.push (Value.ref (t + 247)), ep'2, y.x.kt, y.x.iv, y.x.it⟩ [] [])) (ai (e0 t ft1 pt1) (ai hw (ai (rf ([] : List (Nat × Code))) (fun (tk'3 : Nat) (n'5 : Nat) => fun (gz'5 : Nat) => ai (r7 [ds,y.1,y.1,y.1,y.1,n,y.2,y.2,y.2,y.2,ds,y.1,y.1,y.1,y.1,n]) (ai (rf (stC w.params ⟨y.x.a, y.x.d, ys.push (Value.ref (t + 247)), ep'2, y.x.kt, y.x.iv, y.x.it⟩)) (ai (e0 t ft1 pt1) (ai (rf ([] : List (Nat × Code))) (fun (t2 : Nat) (tk'4 : Nat) => fun (n'6 : Nat) (gz'6 : Nat) => ai (r7 [y.2]) (ai (rf (y.l + 247)) (ai hl (fun (ep'3 : Nat) (n'7 : Nat) => fun (gz'7 : Nat) => ai (r7 [y.x.2,y.x.1,y.x.1,y.x.1,y.x.1,ds,y.1,y.1,y.1,y.1,n]) (ai (rf (acC w.params 199 ⟨y.x.a, y.x.d, ys.push (Value.ref (t + 247)), ep'2, y.x.kt, y.x.iv, y.x.it⟩ [] [])) (ai (t3 (Value.ref (t + 247))) (fun (tk'5 : Nat) (ep'4 : Nat) => fun (t' : Nat) (n'8 : Nat) => fun (gz'8 : Nat) => ai (r7 []) (hq tk'5 ep'3 ep'4 t' t2)))))))))))))))))))))))))))))))))))))))
end
theorem small1 : Small [⟨0, S "", 0, S "", 0⟩] := ⟨by simp, fun x hx => by rw [List.mem_singleton.mp hx]; exact ⟨by show (S "").length ≤ 1000; decide, by show (S "").length ≤ 1000; decide⟩⟩
theorem text1 : textOf [⟨0, S "", 0, S "", 0⟩] = S "" := by
  show Txt.join Str.empty [S "" ++ S ""] = S ""
  decide +kernel
theorem ctNewl_ok (w : World) (ps : List Part) (txt : Str) : CtOk w V0 (ctNewl w.params ps txt) := mkC_ok 120 rfl fun y q gs tk post h n gz => by
  obtain ⟨⟨mx, sc, ds, τ, hs, hd⟩, hl, ⟨hsm, ps', hxs, hkn, hlk⟩, hok, rfl, hq⟩ := h
  have hl := m6 hl rfl
  have e0 : ∀ {ps0 : List Part} {x : Part}, ps = ps0 ++ [x] → x.p ≠ S "" → (WsF ps y.x.iv ∧ ∃ K, y.x.iv + total ps = Int.ofNat (K + 1) ∧ K + 1 ≤ 1000000) → txt = textOf ps → Runs w V0 120 (fmC w.params 95 y []).c (fmC w.params 95 y []).L q [] tk n gz post := fun {ps0 x} e hx ⟨hw, K, hT, hK⟩ ht => by
    subst e ht
    obtain ⟨qs, z, rfl, hlq, hf, hp⟩ := hlk.snoc
    have hz := hkn z (List.mem_append_right _ (List.mem_singleton.mpr rfl))
    obtain ⟨t0, ht0⟩ := Nat.exists_eq_add_of_le' hz.2
    have hzo : (t0 + 247, tup2 z.f z.ft z.p z.pt) ∈ q := ht0 ▸ hz.1
    have hsq : qs.length ≤ 100 := by have := (hlk.small hsm).1; rw [List.length_append] at this; omega
    have hkq : Known qs q := fun a ha => hkn a (List.mem_append_left _ ha)
    exact newlS w hs hd hl hw hT hK (ys := itemsOf qs) (t0 := t0) (f := z.f) (p := z.p) (by rw [hxs, itemsOf_push, ht0]) (by rw [itemsOf_size]; omega) hzo ⟨_, _, hzo⟩ (fun h => hx (hp ▸ h.2)) (fun t ft pt => by rw [hf, hp]; exact AcOk.push hsm hkq hlq) hq
  cases hok with
  | head k e1 e2 e3 =>
    subst e1
    have hps : ps' = [] := List.eq_nil_of_length_eq_zero (by have := congrArg List.length hlk; rw [List.length_map] at this; exact this)
    subst hps
    have hx0 : y.x.xs = #[] := hxs
    exact newlE w hs hd hl (ps := [⟨0, S "", 0, S "", 0⟩]) (f := S "") (p := S "") (K := k) (.inl ⟨k, e2⟩) (by rw [e2]; rfl) (by omega) (by rw [hx0]; rfl) rfl rfl (fun t ft pt q' => by rw [hx0]; exact AcOk.push (ps := []) (qs := []) (x := ⟨0, S "", 0, S "", 0⟩) small1 (fun _ h => nomatch h) rfl) (by rw [text1]; exact hq)
  | lineH ps0 x k e1 e2 e3 e4 =>
    obtain ⟨K0, hK0, hKb0⟩ := total_pos (e1 ▸ hsm) e2
    refine e0 e1 e2 ⟨.inl ⟨k, e3⟩, k + 1 + K0, ?_, by omega⟩ rfl
    rw [e3, e1, hK0]
    show (((k + 1 : Nat) : Int) + ((K0 + 1 : Nat) : Int)) = ((k + 1 + K0 + 1 : Nat) : Int)
    omega
  | lineT ps0 x e1 e2 e3 e4 =>
    obtain ⟨K0, hK0, hKb0⟩ := total_pos (e1 ▸ hsm) e2
    rw [← e1] at hK0
    exact e0 e1 e2 ⟨.inr ⟨e3, e4, K0, hK0, by omega⟩, K0, by rw [e3, hK0, Int.zero_add], by omega⟩ rfl
end
end Mine

set_option linter.unusedSectionVars false
namespace Mine
open PySem PySem.W PySem.W.X
noncomputable section
noncomputable def bodyOf (s : Stmt) : List Stmt := match s with
  | .FunctionDef _ _ body .. => body
  | .If _ b _ _ => b
  | .For _ _ b _ _ => b
  | _ => []
noncomputable def elseOf (s : Stmt) : List Stmt := match s with
  | .For _ _ _ o _ => o
  | _ => []
noncomputable def targetOf (s : Stmt) : Expr := match s with
  | .For t _ _ _ _ => t
  | _ => .Constant .none 0 ⟨0, 0, 0, 0⟩
noncomputable def nthS (l : List Stmt) (i : Nat) : Stmt := l.getD i (.Pass ⟨0, 0, 0, 0⟩)
noncomputable def acFor : Stmt := nthS (bodyOf (nthS (bodyOf (mth 59 8)) 1)) 0
noncomputable def acIn : Stmt := nthS (bodyOf acFor) 0
noncomputable def acScope : Scope := ⟨.function, [(S "self", .local), (S "fws", .local), (S "string", .local), (S "ch", .local), (S "i", .local), (S "prevpart", .local), (S "part", .local), (S "remainder", .local), (S "len", .globalImplicit), (S "range", .globalImplicit), (S "str", .globalImplicit)], false, false, []⟩
noncomputable def acEnv (e : Nat) (qu : Str) (fu : Option Addr) (cd : Value) (fr : Option Addr) : Env := ⟨acScope, e, 3, [], qu, fu, cd, fr, 0⟩
noncomputable def inCode (I : Nat) (env : Env) : Code := .forLoop (targetOf acIn) (.ref I) (bodyOf acIn) (elseOf acIn) env
noncomputable def tn (l : List Nat) (n : Nat) : Nat := match nth l n with
  | some x => x
  | none => 0
noncomputable def acD (P : Params) (τ : List Nat) (s : Nat) (f p ch : Str) (i : Int) (pv : Str) (ep : Nat) : Obj :=
  { cls := .type "frame", data := .dict #[e P "self" (tn τ 0) (.ref s), e P "fws" (tn τ 1) (.str f (tn τ 2)), e P "string" (tn τ 3) (.str p (tn τ 4)), eZ P "ch" (tn τ 5) (.str ch (tn τ 6)), eZ P "i" (tn τ 7) (.int i (tn τ 8)), eZ P "prevpart" (tn τ 9) (.str pv (tn τ 10))] ep }
noncomputable def acD0 (P : Params) (τ : List Nat) (s : Nat) (f p ch : Str) (ep : Nat) : Obj :=
  { cls := .type "frame", data := .dict #[e P "self" (tn τ 0) (.ref s), e P "fws" (tn τ 1) (.str f (tn τ 2)), e P "string" (tn τ 3) (.str p (tn τ 4)), eZ P "ch" (tn τ 5) (.str ch (tn τ 6))] ep }
noncomputable def riO (i n : Int) : Obj := { cls := .type "range_iterator", data := .fields #[.int i 0, .int n 0, .int (-1) 0] }
noncomputable def endsC (c : Nat) (p : Str) : Bool := p.cps.toList.getLast? == some c
noncomputable def tstP (ps : List Part) (c : Nat) (j : Nat) : Bool := match ps[j - 1]? with
  | some x => endsC c x.p
  | none => false
noncomputable def findBrk (t : Nat → Bool) : Nat → Option Nat
  | 0 => none
  | m + 1 => match t (m + 1) with
    | true => some (m + 1)
    | false => findBrk t m
noncomputable def Brk (ps : List Part) (c m : Nat) (r : Option Nat) : Prop := findBrk (tstP ps c) m = r
noncomputable def Two (ps : List Part) : Prop := ∀ x ∈ ps, ∃ a b, x.p = ⟨#[a, b]⟩
theorem tst_eq {ps : List Part} {k cc a1 b1 : Nat} {x : Part} (e : ps[k]? = some x) (hp : x.p = ⟨#[a1, b1]⟩) : tstP ps cc (k + 1) = (b1 == cc) := by
  unfold tstP
  rw [Nat.add_sub_cancel, e]
  show endsC cc x.p = _
  rw [hp]
  show (some b1 == some cc) = _
  rfl
theorem AcOk.at {ps : List Part} {xs : Array Value} {q : List (Nat × Obj)} {k : Nat} (h : AcOk ps xs q) (htw : Two ps) (hk : k < ps.length) : ∃ x a b ft pt t, ps[k]? = some x ∧ x.p = ⟨#[a, b]⟩ ∧ xs[k]? = some (.ref (t + 247)) ∧ (t + 247, tup2 x.f ft ⟨#[a, b]⟩ pt) ∈ q := by
  obtain ⟨hs, ps', rfl, hkn, hl⟩ := h
  have e : ps'.length = ps.length := by have := congrArg List.length hl; rwa [List.length_map, List.length_map] at this
  obtain ⟨y, hy, e1, e2, e3⟩ := mem_addrs (ps := ps') (i := k) (by omega)
  have hx : ps[k]? = some ps[k] := List.getElem?_eq_getElem hk
  have e4 := congrArg (fun l : List (Str × Str) => l[k]?) hl
  simp only [List.getElem?_map, e3, hx, Option.map_some, Option.some.injEq, Prod.mk.injEq] at e4
  obtain ⟨a, b, hp⟩ := htw _ (List.getElem_mem hk)
  have hq := hkn y hy
  obtain ⟨t, ht⟩ := Nat.exists_eq_add_of_le' hq.2
  refine ⟨ps[k], a, b, y.ft, y.pt, t, hx, hp, ?_, ?_⟩
  · rw [itemsOf_get ps' (by omega), e1, ht]
  · have z := hq.1
    unfold Part.obj at z
    rw [ht, e4.1, e4.2, hp] at z
    exact z
noncomputable def VfS (P : Params) (s a : Nat) (q : List (Nat × Obj)) : Prop := ∃ l, VfAny P s (l + 247) a q
structure Il where
  I : Nat
  e : Nat
  s : Nat
  f : Str
  p : Str
  ch : Str
  i : Int
  pv : Str
  ee : Nat
  τ : List Nat
  m : Int
  qu : Str
  fu : Option Addr
  cd : Value
  fr : Option Addr
  a : Nat
  d : Nat
  xs : Array Value
  ep : Nat
noncomputable def cEnv : Code → Env
  | .forLoop _ _ _ _ env => env
  | .whileLoop _ _ _ env => env
  | _ => ⟨lenScope, 0, 0, [], ⟨#[]⟩, none, .none, none, 0⟩
noncomputable def ilS (c : Code) (L : List (Nat × Obj)) : Il := ⟨lA L 1, lA L 0, vA (eV (lO L 0) 0), vS (eV (lO L 0) 1), vS (eV (lO L 0) 2), vS (eV (lO L 0) 3), vI (eV (lO L 0) 4), vS (eV (lO L 0) 5), oEp (lO L 0),
  [eT (lO L 0) 0, eT (lO L 0) 1, vT (eV (lO L 0) 1), eT (lO L 0) 2, vT (eV (lO L 0) 2), eT (lO L 0) 3, vT (eV (lO L 0) 3), eT (lO L 0) 4, vT (eV (lO L 0) 4), eT (lO L 0) 5, vT (eV (lO L 0) 5)],
  vI (atV (oFld (lO L 1)) 0), (cEnv c).qual, (cEnv c).func, (cEnv c).code, (cEnv c).frame, lA L 2, oDic (lO L 2), oSeq (lO L 2), oEp (lO L 2)⟩
noncomputable def ilK (x : Il) (D : Obj) : Cl := ⟨inCode (x.I + 247) (acEnv (x.e + 247) x.qu x.fu x.cd x.fr), [(x.e + 247, D), (x.I + 247, riO x.m x.m), (x.a + 247, accO (x.d + 247) x.xs x.ep)]⟩
noncomputable def ilC (P : Params) (x : Il) : Cl := ilK x (acD P x.τ (x.s + 247) x.f x.p x.ch x.i x.pv x.ee)
noncomputable def il0 (P : Params) (x : Il) : Cl := ilK x (acD0 P x.τ (x.s + 247) x.f x.p x.ch x.ee)
noncomputable def InEnd (P : Params) (x : Il) (post : Post) : Option Nat → Prop
  | some j => ∀ (tk' ee' t0 t1 t2 t3 t4 t5 t6 t7 t8 t9 t10 : Nat) (pv' : Str) (io' : Obj), post (.ok .next) tk' [acD P [t0, t1, t2, t3, t4, t5, t6, t7, t8, t9, t10] (x.s + 247) x.f x.p x.ch (Int.ofNat j) pv' ee', io', accO (x.d + 247) x.xs x.ep] [] []
  | none => ∀ (tk' ee' t0 t1 t2 t3 t4 t5 t6 t7 t8 t9 t10 : Nat) (i' : Int) (pv' : Str) (io' : Obj), post (.ok .cont) tk' [acD P [t0, t1, t2, t3, t4, t5, t6, t7, t8, t9, t10] (x.s + 247) x.f x.p x.ch i' pv' ee', io', accO (x.d + 247) x.xs x.ep] [] []
noncomputable def InOk (P : Params) (ps : List Part) (cc m : Nat) (r : Option Nat) (x : Il) (q : List (Nat × Obj)) (post : Post) : Prop :=
  x.m = Int.ofNat m ∧ x.ch = ⟨#[cc]⟩ ∧ Spc ⟨#[cc]⟩ false ∧ VfS P (x.s + 247) (x.a + 247) q ∧ AcOk ps x.xs q ∧ Two ps ∧ m < ps.length ∧ Brk ps cc m r ∧ InEnd P x post r
noncomputable def ctIn (P : Params) (ps : List Part) (cc m : Nat) (r : Option Nat) : Ct := mkC 60 (fun c L _ => ilS c L) (ilC P) fun x q gs tk post => InOk P ps cc m r x q post
noncomputable def ctIn0 (P : Params) (ps : List Part) (cc m : Nat) (r : Option Nat) : Ct := mkC 70 (fun c L _ => ilS c L) (il0 P) fun x q gs tk post => 0 < m ∧ InOk P ps cc m r x q post
section
variable (w : World) (V : Vol) {x : Il} {q : List (Nat × Obj)} {gs : List (Nat × Code)} {tk n gz : Nat} {post : Post}
theorem inZ (hm : x.m = Int.ofNat 0) (hq : InEnd w.params x post none) : Runs w V 60 (ilC w.params x).c (ilC w.params x).L q gs tk n gz post := by
  obtain ⟨I, e, s, f, p, ch, i, pv, ee, τ, m, qu, fu, cd, fr, a, d, xs, ep⟩ := x
  obtain rfl := hm
  unfold InEnd at hq
  exact .go1 sub0 c0 [3,0,3,0,3,3,3,6,0] [] [] 0 (by kernel_rfl) (by kernel_rfl) (ai (r7 [n + 1,I,I,I,I,I]) (hq tk ee (tn.match_1 (fun (x : Option Nat) => Nat) (nth τ 0) (fun (x : Nat) => x) fun (_ : Unit) => 0) (tn.match_1 (fun (x : Option Nat) => Nat) (nth τ 1) (fun (x : Nat) => x) fun (_ : Unit) => 0) (tn.match_1 (fun (x : Option Nat) => Nat) (nth τ 2) (fun (x : Nat) => x) fun (_ : Unit) => 0) (tn.match_1 (fun (x : Option Nat) => Nat) (nth τ 3) (fun (x : Nat) => x) fun (_ : Unit) => 0) (tn.match_1 (fun (x : Option Nat) => Nat) (nth τ 4) (fun (x : Nat) => x) fun (_ : Unit) => 0) (tn.match_1 (fun (x : Option Nat) => Nat) (nth τ 5) (fun (x : Nat) => x) fun (_ : Unit) => 0) (tn.match_1 (fun (x : Option Nat) => Nat) (nth τ 6) (fun (x : Nat) => x) fun (_ : Unit) => 0) (tn.match_1 (fun (x : Option Nat) => Nat) (nth τ 7) (fun (x : Nat) => x) fun (_ : Unit) => 0) (tn.match_1 (fun (x : Option Nat) => Nat) (nth τ 8) (fun (x : Nat) => x) fun (_ : Unit) => 0) (tn.match_1 (fun (x : Option Nat) => Nat) (nth τ 9) (fun (x : Nat) => x) fun (_ : Unit) => 0) (tn.match_1 (fun (x : Option Nat) => Nat) (nth τ 10) (fun (x : Nat) => x) fun (_ : Unit) => 0) i pv ({ cls := Value.type "range_iterator", data := Data.fields #[Value.int 0 0, Value.int 0 0, Value.int (-1) 0] })))
variable {ds l t ft pt a1 b1 : Nat} {τ : Nat → Nat} {mx : Int} {sc : Str}
theorem inT {k : Nat} {f1 : Str} (hm : x.m = Int.ofNat (k + 1)) (hsp : Spc x.ch false) (hs : (x.s + 247, vfO (ds + 247)) ∈ q) (hd : (ds + 247, vfD w.params τ mx sc (l + 247) (x.a + 247)) ∈ q) (ht : (t + 247, tup2 f1 ft ⟨#[a1, b1]⟩ pt) ∈ q) (hx : AtI x.xs (Int.ofNat k) (.ref (t + 247))) (hk : Int.ofNat k < 1000000) (he : TextEq ⟨#[b1]⟩ x.ch true)
    (hq : InEnd w.params x post (some (k + 1))) : Runs w V 60 (ilC w.params x).c (ilC w.params x).L q gs tk n gz post := by
  obtain ⟨I, e, s, f, p, ch, i, pv, ee, τ₁, m, qu, fu, cd, fr, a, d, xs, ep⟩ := x
  obtain rfl := hm
  have h0 : 0 ≤ Int.ofNat k := Int.natCast_nonneg k
  have h1 : Int.ofNat (k + 1) - 1 = Int.ofNat k := by show ((k + 1 : Nat) : Int) - 1 = (k : Int); omega
  unfold InEnd at hq
  exact .go1 (subC hs (subC hd (subC ht sub0))) (cC (ctSpace_ok w V false) <| cC (ctEq_ok w V true) <| cC (ctSub_ok w V (Int.ofNat k)) <| c1 (ctGet_ok w V (.ref (t + 247)))) [3,0,3,0,3,3,3,3,3,3,3,2,2,2,0,2,0,0,2,1,0,0,0,0,0,1,0,0,0,0,1,0,1,0,0,1,1,2,0,2,2,0,4,0,0,0,4,0,4,0,0,0,0,4,0,2,3,1,2,0,1,2,1,2,1,2,0,1,2,0,1,2,0,2,2,2,0,0,0,2,0,0,0,0,2,0,2,1,0] [] [] 0 (by kernel_rfl) (by kernel_rfl) (ai (r7 [e,e,e,I,I,I,I,I,I,I,I,I]) (ai hsp (fun (n' : Nat) (gz' : Nat) => ai (r7 [e,ds,s,s,s,s,e]) (ai h1 (fun (n'1 : Nat) (gz'1 : Nat) => ai (r7 [a,a,a,a]) (ai (rf (a + 247)) (ai h0 (ai hk (ai hx (fun (n'2 : Nat) (gz'2 : Nat) => ai (r7 [e,e,e,e,e,t,t,t,t,t]) (ai he (fun (n'3 : Nat) (gz'3 : Nat) => ai (r7 []) (hq (tk + 12) ee (tn.match_1 (fun (x : Option Nat) => Nat) (nth τ₁ 0) (fun (x : Nat) => x) fun (_ : Unit) => 0) (tn.match_1 (fun (x : Option Nat) => Nat) (nth τ₁ 1) (fun (x : Nat) => x) fun (_ : Unit) => 0) (tn.match_1 (fun (x : Option Nat) => Nat) (nth τ₁ 2) (fun (x : Nat) => x) fun (_ : Unit) => 0) (tn.match_1 (fun (x : Option Nat) => Nat) (nth τ₁ 3) (fun (x : Nat) => x) fun (_ : Unit) => 0) (tn.match_1 (fun (x : Option Nat) => Nat) (nth τ₁ 4) (fun (x : Nat) => x) fun (_ : Unit) => 0) (tn.match_1 (fun (x : Option Nat) => Nat) (nth τ₁ 5) (fun (x : Nat) => x) fun (_ : Unit) => 0) (tn.match_1 (fun (x : Option Nat) => Nat) (nth τ₁ 6) (fun (x : Nat) => x) fun (_ : Unit) => 0) (tn.match_1 (fun (x : Option Nat) => Nat) (nth τ₁ 7) (fun (x : Nat) => x) fun (_ : Unit) => 0) tk (tn.match_1 (fun (x : Option Nat) => Nat) (nth τ₁ 9) (fun (x : Nat) => x) fun (_ : Unit) => 0) pt ({ cps := #[a1, b1] }) ({ cls := Value.type "range_iterator", data := Data.fields #[Value.int (Int.ofNat (k + 1) + -1) 0, Value.int (Int.ofNat (k + 1) - 1) 0, Value.int (-1) 0] }))))))))))))))
theorem inF {k : Nat} {f1 : Str} {ps : List Part} {cc : Nat} {r : Option Nat} (hC : CtOk w V (ctIn w.params ps cc k r)) (hm : x.m = Int.ofNat (k + 1)) (hsp : Spc x.ch false) (hs : (x.s + 247, vfO (ds + 247)) ∈ q) (hd : (ds + 247, vfD w.params τ mx sc (l + 247) (x.a + 247)) ∈ q) (ht : (t + 247, tup2 f1 ft ⟨#[a1, b1]⟩ pt) ∈ q) (hx : AtI x.xs (Int.ofNat k) (.ref (t + 247))) (hk : Int.ofNat k < 1000000) (he : TextEq ⟨#[b1]⟩ x.ch false)
    (g1 : x.ch = ⟨#[cc]⟩) (g2 : Spc ⟨#[cc]⟩ false) (g3 : VfS w.params (x.s + 247) (x.a + 247) q) (g4 : AcOk ps x.xs q) (g5 : Two ps) (g6 : k < ps.length) (g7 : Brk ps cc k r) (hq : InEnd w.params x post r) : Runs w V 60 (ilC w.params x).c (ilC w.params x).L q gs tk n gz post := by
  obtain ⟨I, e, s, f, p, ch, i, pv, ee, τ₁, m, qu, fu, cd, fr, a, d, xs, ep⟩ := x
  obtain rfl := hm
  have h0 : 0 ≤ Int.ofNat k := Int.natCast_nonneg k
  have h1 : Int.ofNat (k + 1) - 1 = Int.ofNat k := by show ((k + 1 : Nat) : Int) - 1 = (k : Int); omega
  have h2 : Int.ofNat (k + 1) + -1 = Int.ofNat k := h1
  cases r with
  | none =>
    unfold InEnd at hq
    exact .go1 (subC hs (subC hd (subC ht sub0))) (cC (ctSpace_ok w V false) <| cC (ctEq_ok w V false) <| cC (ctSub_ok w V (Int.ofNat k)) <| cC (ctGet_ok w V (.ref (t + 247))) <| c1 hC) [3,0,3,0,3,3,3,3,3,3,3,2,2,2,0,2,0,0,2,1,0,0,0,0,0,1,0,0,0,0,1,0,1,0,0,1,1,2,0,2,2,0,4,0,0,0,4,0,4,0,0,0,0,4,0,2,3,1,2,0,1,2,1,2,1,2,0,1,2,0,1,2,0,2,2,2,0,0,0,2,0,0,0,0,2,0,2,1,0,2,4,3,0,1,2] [] [] 0 (by kernel_rfl) (by kernel_rfl) (ai (r7 [e,e,e,I,I,I,I,I,I,I,I,I]) (ai hsp (fun (n' : Nat) (gz' : Nat) => ai (r7 [e,ds,s,s,s,s,e]) (ai h2 (fun (n'1 : Nat) (gz'1 : Nat) => ai (r7 [a,a,a,a]) (ai (rf (a + 247)) (ai h0 (ai hk (ai hx (fun (n'2 : Nat) (gz'2 : Nat) => ai (r7 [e,e,e,e,e,t,t,t,t,t]) (ai he (fun (n'3 : Nat) (gz'3 : Nat) => ai (r7 []) (ai (rf (ilC w.params ⟨I, e, s, f, p, ch, Int.ofNat (k + 1), { cps := #[a1, b1] }, ee, [tn τ₁ 0, tn τ₁ 1, tn τ₁ 2, tn τ₁ 3, tn τ₁ 4, tn τ₁ 5, tn τ₁ 6, tn τ₁ 7, tk, tn τ₁ 9, pt], Int.ofNat (k + 1) + -1, qu, fu, cd, fr, a, d, xs, ep⟩)) (ai h2 (ai g1 (ai g2 (ai g3 (ai g4 (ai g5 (ai g6 (ai g7 (fun (tk' : Nat) (ee' : Nat) => fun (t0 t1 t2 t3 t4 t5 : Nat) (t6 t7 t8 t9 t10 : Nat) => fun (i' : Int) (pv' : Str) => fun (io' : Obj) (n'4 : Nat) => fun (gz'4 : Nat) => hq tk' ee' t0 t1 t2 t3 t4 t5 t6 t7 t8 t9 t10 i' pv' io'))))))))))))))))))))))
  | some j =>
    unfold InEnd at hq
    exact .go1 (subC hs (subC hd (subC ht sub0))) (cC (ctSpace_ok w V false) <| cC (ctEq_ok w V false) <| cC (ctSub_ok w V (Int.ofNat k)) <| cC (ctGet_ok w V (.ref (t + 247))) <| c1 hC) [3,0,3,0,3,3,3,3,3,3,3,2,2,2,0,2,0,0,2,1,0,0,0,0,0,1,0,0,0,0,1,0,1,0,0,1,1,2,0,2,2,0,4,0,0,0,4,0,4,0,0,0,0,4,0,2,3,1,2,0,1,2,1,2,1,2,0,1,2,0,1,2,0,2,2,2,0,0,0,2,0,0,0,0,2,0,2,1,0,2,4,3,0,1,2] [] [] 0 (by kernel_rfl) (by kernel_rfl) (ai (r7 [e,e,e,I,I,I,I,I,I,I,I,I]) (ai hsp (fun (n' : Nat) (gz' : Nat) => ai (r7 [e,ds,s,s,s,s,e]) (ai h2 (fun (n'1 : Nat) (gz'1 : Nat) => ai (r7 [a,a,a,a]) (ai (rf (a + 247)) (ai h0 (ai hk (ai hx (fun (n'2 : Nat) (gz'2 : Nat) => ai (r7 [e,e,e,e,e,t,t,t,t,t]) (ai he (fun (n'3 : Nat) (gz'3 : Nat) => ai (r7 []) (ai (rf (ilC w.params ⟨I, e, s, f, p, ch, Int.ofNat (k + 1), { cps := #[a1, b1] }, ee, [tn τ₁ 0, tn τ₁ 1, tn τ₁ 2, tn τ₁ 3, tn τ₁ 4, tn τ₁ 5, tn τ₁ 6, tn τ₁ 7, tk, tn τ₁ 9, pt], Int.ofNat (k + 1) + -1, qu, fu, cd, fr, a, d, xs, ep⟩)) (ai h2 (ai g1 (ai g2 (ai g3 (ai g4 (ai g5 (ai g6 (ai g7 (fun (tk' : Nat) (ee' : Nat) => fun (t0 t1 t2 t3 t4 t5 : Nat) (t6 t7 t8 t9 t10 : Nat) => fun (pv' : Str) (io' : Obj) => fun (n'4 : Nat) (gz'4 : Nat) => hq tk' ee' t0 t1 t2 t3 t4 t5 t6 t7 t8 t9 t10 pv' io'))))))))))))))))))))))
theorem i0T {k : Nat} {f1 : Str} (hm : x.m = Int.ofNat (k + 1)) (hsp : Spc x.ch false) (hs : (x.s + 247, vfO (ds + 247)) ∈ q) (hd : (ds + 247, vfD w.params τ mx sc (l + 247) (x.a + 247)) ∈ q) (ht : (t + 247, tup2 f1 ft ⟨#[a1, b1]⟩ pt) ∈ q) (hx : AtI x.xs (Int.ofNat k) (.ref (t + 247))) (hk : Int.ofNat k < 1000000) (he : TextEq ⟨#[b1]⟩ x.ch true)
    (hq : InEnd w.params x post (some (k + 1))) : Runs w V 62 (il0 w.params x).c (il0 w.params x).L q gs tk n gz post := by
  obtain ⟨I, e, s, f, p, ch, i, pv, ee, τ₁, m, qu, fu, cd, fr, a, d, xs, ep⟩ := x
  obtain rfl := hm
  have h0 : 0 ≤ Int.ofNat k := Int.natCast_nonneg k
  have h1 : Int.ofNat (k + 1) - 1 = Int.ofNat k := by show ((k + 1 : Nat) : Int) - 1 = (k : Int); omega
  unfold InEnd at hq
  exact .go1 (subC hs (subC hd (subC ht sub0))) (cC (ctSpace_ok w V false) <| cC (ctEq_ok w V true) <| cC (ctSub_ok w V (Int.ofNat k)) <| c1 (ctGet_ok w V (.ref (t + 247)))) [3,0,3,0,3,3,3,3,3,3,3,2,2,2,0,2,0,0,2,1,0,0,0,0,0,1,0,0,0,0,1,0,1,0,0,1,1,2,0,2,2,0,4,0,0,0,4,0,4,0,0,0,0,4,0,2,3,1,2,0,1,2,1,2,1,2,0,1,2,0,1,2,0,2,2,2,0,0,0,2,0,0,0,0,2,0,2,1,0] [] [] 0 (by kernel_rfl) (by kernel_rfl) (ai (r7 [e,e,e,I,I,I,I,I,I,I,I,I]) (ai hsp (fun (n' : Nat) (gz' : Nat) => ai (r7 [e,ds,s,s,s,s,e]) (ai h1 (fun (n'1 : Nat) (gz'1 : Nat) => ai (r7 [a,a,a,a]) (ai (rf (a + 247)) (ai h0 (ai hk (ai hx (fun (n'2 : Nat) (gz'2 : Nat) => ai (r7 [e,e,e,e,e,t,t,t,t,t]) (ai he (fun (n'3 : Nat) (gz'3 : Nat) => ai (r7 []) (hq (tk + 12) (ee + 2) (tn.match_1 (fun (x : Option Nat) => Nat) (nth τ₁ 0) (fun (x : Nat) => x) fun (_ : Unit) => 0) (tn.match_1 (fun (x : Option Nat) => Nat) (nth τ₁ 1) (fun (x : Nat) => x) fun (_ : Unit) => 0) (tn.match_1 (fun (x : Option Nat) => Nat) (nth τ₁ 2) (fun (x : Nat) => x) fun (_ : Unit) => 0) (tn.match_1 (fun (x : Option Nat) => Nat) (nth τ₁ 3) (fun (x : Nat) => x) fun (_ : Unit) => 0) (tn.match_1 (fun (x : Option Nat) => Nat) (nth τ₁ 4) (fun (x : Nat) => x) fun (_ : Unit) => 0) (tn.match_1 (fun (x : Option Nat) => Nat) (nth τ₁ 5) (fun (x : Nat) => x) fun (_ : Unit) => 0) (tn.match_1 (fun (x : Option Nat) => Nat) (nth τ₁ 6) (fun (x : Nat) => x) fun (_ : Unit) => 0) (tk + 1) tk (tk + 6) pt ({ cps := #[a1, b1] }) ({ cls := Value.type "range_iterator", data := Data.fields #[Value.int (Int.ofNat (k + 1) + -1) 0, Value.int (Int.ofNat (k + 1) - 1) 0, Value.int (-1) 0] }))))))))))))))
theorem i0F {k : Nat} {f1 : Str} {ps : List Part} {cc : Nat} {r : Option Nat} (hC : CtOk w V (ctIn w.params ps cc k r)) (hm : x.m = Int.ofNat (k + 1)) (hsp : Spc x.ch false) (hs : (x.s + 247, vfO (ds + 247)) ∈ q) (hd : (ds + 247, vfD w.params τ mx sc (l + 247) (x.a + 247)) ∈ q) (ht : (t + 247, tup2 f1 ft ⟨#[a1, b1]⟩ pt) ∈ q) (hx : AtI x.xs (Int.ofNat k) (.ref (t + 247))) (hk : Int.ofNat k < 1000000) (he : TextEq ⟨#[b1]⟩ x.ch false)
    (g1 : x.ch = ⟨#[cc]⟩) (g2 : Spc ⟨#[cc]⟩ false) (g3 : VfS w.params (x.s + 247) (x.a + 247) q) (g4 : AcOk ps x.xs q) (g5 : Two ps) (g6 : k < ps.length) (g7 : Brk ps cc k r) (hq : InEnd w.params x post r) : Runs w V 62 (il0 w.params x).c (il0 w.params x).L q gs tk n gz post := by
  obtain ⟨I, e, s, f, p, ch, i, pv, ee, τ₁, m, qu, fu, cd, fr, a, d, xs, ep⟩ := x
  obtain rfl := hm
  have h0 : 0 ≤ Int.ofNat k := Int.natCast_nonneg k
  have h1 : Int.ofNat (k + 1) - 1 = Int.ofNat k := by show ((k + 1 : Nat) : Int) - 1 = (k : Int); omega
  have h2 : Int.ofNat (k + 1) + -1 = Int.ofNat k := h1
  cases r with
  | none =>
    unfold InEnd at hq
    exact .go1 (subC hs (subC hd (subC ht sub0))) (cC (ctSpace_ok w V false) <| cC (ctEq_ok w V false) <| cC (ctSub_ok w V (Int.ofNat k)) <| cC (ctGet_ok w V (.ref (t + 247))) <| c1 hC) [3,0,3,0,3,3,3,3,3,3,3,2,2,2,0,2,0,0,2,1,0,0,0,0,0,1,0,0,0,0,1,0,1,0,0,1,1,2,0,2,2,0,4,0,0,0,4,0,4,0,0,0,0,4,0,2,3,1,2,0,1,2,1,2,1,2,0,1,2,0,1,2,0,2,2,2,0,0,0,2,0,0,0,0,2,0,2,1,0,2,4,3,0,1,2] [] [] 0 (by kernel_rfl) (by kernel_rfl) (ai (r7 [e,e,e,I,I,I,I,I,I,I,I,I]) (ai hsp (fun (n' : Nat) (gz' : Nat) => ai (r7 [e,ds,s,s,s,s,e]) (ai h2 (fun (n'1 : Nat) (gz'1 : Nat) => ai (r7 [a,a,a,a]) (ai (rf (a + 247)) (ai h0 (ai hk (ai hx (fun (n'2 : Nat) (gz'2 : Nat) => ai (r7 [e,e,e,e,e,t,t,t,t,t]) (ai he (fun (n'3 : Nat) (gz'3 : Nat) => ai (r7 []) (ai (rf (ilC w.params ⟨I, e, s, f, p, ch, Int.ofNat (k + 1), { cps := #[a1, b1] }, ee + 2, [tn τ₁ 0, tn τ₁ 1, tn τ₁ 2, tn τ₁ 3, tn τ₁ 4, tn τ₁ 5, tn τ₁ 6, tk + 1, tk, tk + 6, pt], Int.ofNat (k + 1) + -1, qu, fu, cd, fr, a, d, xs, ep⟩)) (ai h2 (ai g1 (ai g2 (ai g3 (ai g4 (ai g5 (ai g6 (ai g7 (fun (tk' : Nat) (ee' : Nat) => fun (t0 t1 t2 t3 t4 t5 : Nat) (t6 t7 t8 t9 t10 : Nat) => fun (i' : Int) (pv' : Str) => fun (io' : Obj) (n'4 : Nat) => fun (gz'4 : Nat) => hq tk' ee' t0 t1 t2 t3 t4 t5 t6 t7 t8 t9 t10 i' pv' io'))))))))))))))))))))))
  | some j =>
    unfold InEnd at hq
    exact .go1 (subC hs (subC hd (subC ht sub0))) (cC (ctSpace_ok w V false) <| cC (ctEq_ok w V false) <| cC (ctSub_ok w V (Int.ofNat k)) <| cC (ctGet_ok w V (.ref (t + 247))) <| c1 hC) [3,0,3,0,3,3,3,3,3,3,3,2,2,2,0,2,0,0,2,1,0,0,0,0,0,1,0,0,0,0,1,0,1,0,0,1,1,2,0,2,2,0,4,0,0,0,4,0,4,0,0,0,0,4,0,2,3,1,2,0,1,2,1,2,1,2,0,1,2,0,1,2,0,2,2,2,0,0,0,2,0,0,0,0,2,0,2,1,0,2,4,3,0,1,2] [] [] 0 (by kernel_rfl) (by kernel_rfl) (ai (r7 [e,e,e,I,I,I,I,I,I,I,I,I]) (ai hsp (fun (n' : Nat) (gz' : Nat) => ai (r7 [e,ds,s,s,s,s,e]) (ai h2 (fun (n'1 : Nat) (gz'1 : Nat) => ai (r7 [a,a,a,a]) (ai (rf (a + 247)) (ai h0 (ai hk (ai hx (fun (n'2 : Nat) (gz'2 : Nat) => ai (r7 [e,e,e,e,e,t,t,t,t,t]) (ai he (fun (n'3 : Nat) (gz'3 : Nat) => ai (r7 []) (ai (rf (ilC w.params ⟨I, e, s, f, p, ch, Int.ofNat (k + 1), { cps := #[a1, b1] }, ee + 2, [tn τ₁ 0, tn τ₁ 1, tn τ₁ 2, tn τ₁ 3, tn τ₁ 4, tn τ₁ 5, tn τ₁ 6, tk + 1, tk, tk + 6, pt], Int.ofNat (k + 1) + -1, qu, fu, cd, fr, a, d, xs, ep⟩)) (ai h2 (ai g1 (ai g2 (ai g3 (ai g4 (ai g5 (ai g6 (ai g7 (fun (tk' : Nat) (ee' : Nat) => fun (t0 t1 t2 t3 t4 t5 : Nat) (t6 t7 t8 t9 t10 : Nat) => fun (pv' : Str) (io' : Obj) => fun (n'4 : Nat) (gz'4 : Nat) => hq tk' ee' t0 t1 t2 t3 t4 t5 t6 t7 t8 t9 t10 pv' io'))))))))))))))))))))))
theorem in_step {ps : List Part} {cc k : Nat} {r : Option Nat} (K : Params → Il → Cl) {lim : Nat} (h : InOk w.params ps cc (k + 1) r x q post)
    (hT : ∀ {f1 : Str} {ds l t ft pt a1 b1 : Nat} {τ : Nat → Nat} {mx : Int} {sc : Str}, x.m = Int.ofNat (k + 1) → Spc x.ch false → (x.s + 247, vfO (ds + 247)) ∈ q → (ds + 247, vfD w.params τ mx sc (l + 247) (x.a + 247)) ∈ q → (t + 247, tup2 f1 ft ⟨#[a1, b1]⟩ pt) ∈ q → AtI x.xs (Int.ofNat k) (.ref (t + 247)) → Int.ofNat k < 1000000 → TextEq ⟨#[b1]⟩ x.ch true → InEnd w.params x post (some (k + 1)) → Runs w V lim (K w.params x).c (K w.params x).L q gs tk n gz post)
    (hF : ∀ {f1 : Str} {ds l t ft pt a1 b1 : Nat} {τ : Nat → Nat} {mx : Int} {sc : Str}, x.m = Int.ofNat (k + 1) → Spc x.ch false → (x.s + 247, vfO (ds + 247)) ∈ q → (ds + 247, vfD w.params τ mx sc (l + 247) (x.a + 247)) ∈ q → (t + 247, tup2 f1 ft ⟨#[a1, b1]⟩ pt) ∈ q → AtI x.xs (Int.ofNat k) (.ref (t + 247)) → Int.ofNat k < 1000000 → TextEq ⟨#[b1]⟩ x.ch false → x.ch = ⟨#[cc]⟩ → Spc ⟨#[cc]⟩ false → VfS w.params (x.s + 247) (x.a + 247) q → AcOk ps x.xs q → Two ps → k < ps.length → Brk ps cc k r → InEnd w.params x post r → Runs w V lim (K w.params x).c (K w.params x).L q gs tk n gz post) :
    Runs w V lim (K w.params x).c (K w.params x).L q gs tk n gz post := by
  obtain ⟨hm, hch, hsp, hv, hk, htw, hlt, hb, hq⟩ := h
  obtain ⟨y, a, b, ft, pt, t, e1, e2, e3, e4⟩ := hk.at htw (Nat.lt_of_succ_lt hlt)
  have hv' := hv
  obtain ⟨l, mx, sc, ds, τ, hs, hd⟩ := hv'
  have hl : Int.ofNat k < 1000000 := by have := hk.1.1; show (k : Int) < 1000000; omega
  have ht := tst_eq (cc := cc) e1 e2
  unfold Brk at hb
  rw [findBrk, ht] at hb
  cases hbc : b == cc with
  | true =>
    rw [hbc] at hb
    subst hb
    exact hT hm (hch ▸ hsp) hs hd e4 e3 hl (by rw [hch]; show ([b] == [cc]) = true; simpa using hbc) hq
  | false =>
    rw [hbc] at hb
    exact hF hm (hch ▸ hsp) hs hd e4 e3 hl (by rw [hch]; show ([b] == [cc]) = false; simpa using hbc) hch hsp hv hk htw (Nat.lt_of_succ_lt hlt) hb hq
theorem ctIn_ok (ps : List Part) (cc : Nat) (r : Option Nat) (m : Nat) : CtOk w V (ctIn w.params ps cc m r) := by
  induction m with
  | zero =>
    refine mkC_ok 60 rfl fun x q gs tk post h n gz => ?_
    obtain ⟨hm, _, _, _, _, _, _, hb, hq⟩ := h
    cases hb
    exact inZ w V hm hq
  | succ k ih => exact mkC_ok 60 rfl fun x q gs tk post h n gz => in_step w V ilC h (inT w V) (inF w V ih)
theorem ctIn0_ok (ps : List Part) (cc : Nat) (r : Option Nat) (m : Nat) : CtOk w V (ctIn0 w.params ps cc m r) := mkC_ok 62 rfl fun x q gs tk post h n gz => by
  obtain ⟨h0, h⟩ := h
  cases m with
  | zero => cases h0
  | succ k => exact in_step w V il0 h (i0T w V) (i0F w V (ctIn_ok w V ps cc r k))
end
end
end Mine

namespace Mine
open PySem PySem.W PySem.W.X
noncomputable section
noncomputable def rgO (a b c : Int) (t u v : Nat) : Obj := { cls := .type "range", data := .fields #[.int a t, .int b u, .int c v] }
noncomputable def rnC (k : Nat) (x : Nat × Nat × Nat) : Cl := ⟨.builtin "range.__new__" ⟨[.type "range", .int (Int.ofNat (k + 1)) x.1, .int 0 x.2.1, .int (-1) x.2.2], []⟩, []⟩
noncomputable def ctRNew (k : Nat) : Ct := mkC 4 (fun c _ _ => (vT (arg c 1), vT (arg c 2), vT (arg c 3))) (rnC k) fun x q gs tk post =>
  k ≤ 1000 ∧ ∀ r : Nat, post (.ok (.ret (.ref (r + 247)))) tk [] [(r + 247, rgO (Int.ofNat (k + 1)) 0 (-1) x.1 x.2.1 x.2.2)] []
theorem ctRNew_ok (w : World) (V : Vol) (k : Nat) : CtOk w V (ctRNew k) := mkC_by fun x q gs tk post hp A Q h g d os hr H hQ => by
  obtain ⟨t, u, v⟩ := x
  obtain ⟨hk, hp⟩ := hp
  refine codeAny_builtin PySem.F.entry_range_new ?_
  rw [Around.under_plainId (by decide +kernel) _]
  refine AutoRange.range___new___type_int_int_int_1 (Int.ofNat (k + 1)) 0 (-1) t u v PySem.F.called_range.sub (by decide) PW w A Q _ ⟨?_, ?_⟩
  · unfold Builtin.divisionGoesByPylong
    rfl
  · have hr' := hp (h.objs.size - 247)
    rw [Nat.sub_add_cancel H.big] at hr'
    exact hQ _ _ _ _ _ _ _ hr' (H.push rfl)
theorem rsize (k : Nat) : Builtin.Range.rangeSize (Int.ofNat (k + 1)) 0 (-1) = Int.ofNat (k + 1) := by
  unfold Builtin.Range.rangeSize
  have h1 : ¬ ((-1 : Int) > 0) := by decide
  have h2 : Int.ofNat (k + 1) > 0 := by show ((k + 1 : Nat) : Int) > 0; omega
  rw [if_neg h1, if_pos h2]
  show (((k + 1 : Nat) : Int) - 0 - 1) / (- -1) + 1 = ((k + 1 : Nat) : Int)
  have : (- -1 : Int) = 1 := by decide
  rw [this, Int.ediv_one]
  omega
noncomputable def riC (k : Nat) (x : Nat × Nat × Nat × Nat) : Cl := ⟨.builtin "range.__iter__" ⟨[.ref (x.1 + 247)], []⟩, [(x.1 + 247, rgO (Int.ofNat (k + 1)) 0 (-1) x.2.1 x.2.2.1 x.2.2.2)]⟩
noncomputable def ctRIter (k : Nat) : Ct := mkC 4 (fun c L _ => (lA L 0, vT (atV (oFld (lO L 0)) 0), vT (atV (oFld (lO L 0)) 1), vT (atV (oFld (lO L 0)) 2))) (riC k) fun x q gs tk post =>
  k ≤ 1000 ∧ ∀ n : Nat, post (.ok (.ret (.ref (n + 247)))) tk [rgO (Int.ofNat (k + 1)) 0 (-1) x.2.1 x.2.2.1 x.2.2.2] [(n + 247, riO (Int.ofNat (k + 1)) (Int.ofNat (k + 1)))] []
theorem ctRIter_ok (w : World) (V : Vol) (k : Nat) : CtOk w V (ctRIter k) := mkC_by fun x q gs tk post hp A Q h g d os hr H hQ => by
  obtain ⟨r', t, u, v⟩ := x
  obtain ⟨hk, hp⟩ := hp
  have hh := H.has _ (List.mem_cons_self ..)
  refine codeAny_builtin PySem.F.entry_range_iter ?_
  rw [Around.under_plainId (by decide +kernel) _]
  have hf : ∀ x : Int, -10000 ≤ x → x ≤ 10000 → Builtin.Range.rangeFitsLong x = true := fun x h1 h2 => by
    unfold Builtin.Range.rangeFitsLong
    have : (2 : Int) ^ 63 = 9223372036854775808 := by decide
    rw [this]
    simp only [Bool.and_eq_true, decide_eq_true_eq]
    omega
  have hk' : Int.ofNat (k + 1) = ((k + 1 : Nat) : Int) := rfl
  have hs : (Builtin.Range.rangeFitsLong (Int.ofNat (k + 1)) && Builtin.Range.rangeFitsLong 0 && Builtin.Range.rangeFitsLong (-1) && Builtin.Range.rangeFitsLong (Builtin.Range.rangeSize (Int.ofNat (k + 1)) 0 (-1)) && (Builtin.Range.rangeSize (Int.ofNat (k + 1)) 0 (-1) == 0 || if (-1 : Int) > 0 then Builtin.Range.rangeFitsLong (0 + (-1 - 1)) else Builtin.Range.rangeFitsLong (0 + (-1 + 1)))) = true := by
    rw [rsize, hf (Int.ofNat (k + 1)) (by rw [hk']; omega) (by rw [hk']; omega), hf 0 (by omega) (by omega), hf (-1) (by omega) (by omega)]
    simp only [Bool.and_self, Bool.true_and, Bool.or_eq_true]
    right
    rw [if_neg (by decide)]
    exact hf _ (by omega) (by omega)
  refine AutoRange.range___iter___range_1 (r' + 247) (Int.ofNat (k + 1)) 0 (-1) t u v (by rw [hs]; decide) PW w A Q _ ⟨hh, ?_⟩
  have hr' := hp (h.objs.size - 247)
  rw [Nat.sub_add_cancel H.big] at hr'
  rw [hs, if_pos rfl, rsize]
  exact hQ _ _ _ _ _ _ _ hr' (H.push rfl)
noncomputable def siO (x : Str) (t : Nat) (i : Int) : Obj := { cls := .type "str_ascii_iterator", data := .fields #[.str x t, .int i 0] }
noncomputable def Ascii (x : Str) : Prop := x.cps.all (· < 128) = true
noncomputable def siC (x : Str × Nat) : Cl := ⟨.builtin "str.__iter__" ⟨[.str x.1 x.2], []⟩, []⟩
noncomputable def ctSIter : Ct := mkC 4 (fun c _ _ => (vS (arg c 0), vT (arg c 0))) siC fun x q gs tk post =>
  Ascii x.1 ∧ ∀ n : Nat, post (.ok (.ret (.ref (n + 247)))) tk [] [(n + 247, siO x.1 x.2 0)] []
theorem ctSIter_ok (w : World) (V : Vol) : CtOk w V ctSIter := mkC_by fun y q gs tk post hp A Q h g d os hr H hQ => by
  obtain ⟨x, t⟩ := y
  obtain ⟨ha, hp⟩ := hp
  refine codeAny_builtin PySem.F.entry_str_iter ?_
  show wpAny _ _ (newFields (if (true && x.cps.all (· < 128)) = true then "str_ascii_iterator" else "str_iterator") [.str x t, rawInt 0] >>= fun v => ret v) _ _ _
  rw [if_pos (by rw [Bool.true_and]; exact ha)]
  have hr' := hp (h.objs.size - 247)
  rw [Nat.sub_add_cancel H.big] at hr'
  exact wpAny_bind (wpAny_newObj_type (wpAny_pure (hQ _ _ _ _ _ _ _ hr' (H.push rfl))) (by size_fits))
noncomputable abbrev Pt := Str × Str
noncomputable def ptot (l : List Pt) : Nat := (l.map fun x => x.1.length + x.2.length).sum
noncomputable def ptext (l : List Pt) : Str := Txt.join Str.empty (l.map fun x => x.1 ++ x.2)
noncomputable def ptst (l : List Pt) (c : Nat) (j : Nat) : Bool := match l[j - 1]? with
  | some x => endsC c x.2
  | none => false
structure VS where
  lines : List Str
  ps : List Pt
  iv : Nat
noncomputable def cutAt : List Nat → List Pt → Nat → Nat
  | [], _, m => m
  | c :: M, l, m => match findBrk (ptst l c) m with
    | some j => j
    | none => cutAt M l m
noncomputable def chunkStep (mx : Nat) (M : List Nat) (v : VS) (f p : Str) : VS :=
  if v.iv + ptot (v.ps ++ [(f, p)]) ≤ mx then ⟨v.lines, v.ps ++ [(f, p)], v.iv⟩
  else match v.ps with
    | [] => ⟨v.lines ++ [S ""], [(S " ", p)], 0⟩
    | x :: l => ⟨v.lines ++ [ptext ((v.ps ++ [(f, p)]).take (cutAt M (v.ps ++ [(f, p)]) v.ps.length))], (v.ps ++ [(f, p)]).drop (cutAt M (v.ps ++ [(f, p)]) v.ps.length), 0⟩
noncomputable def TextsOf (xs : Array Value) (l : List Str) : Prop := ∃ ts : List Nat, ts.length = l.length ∧ xs = (List.zipWith (fun x t => Value.str x t) l ts).toArray
theorem TextsOf.push {xs : Array Value} {l : List Str} (h : TextsOf xs l) (x : Str) (t : Nat) : TextsOf (xs.push (.str x t)) (l ++ [x]) := by
  obtain ⟨ts, h1, rfl⟩ := h
  refine ⟨ts ++ [t], by simp [h1], ?_⟩
  rw [List.zipWith_append h1.symm]
  simp
theorem TextsOf.size {xs : Array Value} {l : List Str} (h : TextsOf xs l) : xs.size = l.length := by
  obtain ⟨ts, h1, rfl⟩ := h
  simp [h1]
noncomputable def PartsOf (ps : List Part) (l : List Pt) : Prop := ps.map (fun x => (x.f, x.p)) = l
section
variable {ps : List Part} {l : List Pt}
theorem PartsOf.total (h : PartsOf ps l) : Mine.total ps = Int.ofNat (ptot l) := by
  rw [← h]
  unfold Mine.total ptot
  rw [List.map_map]
  clear h
  induction ps with
  | nil => rfl
  | cons x ps ih =>
    rw [List.map_cons, List.sum_cons, ih, List.map_cons, List.sum_cons]
    show ((x.f.length + x.p.length : Nat) : Int) + (((List.map ((fun x => x.1.length + x.2.length) ∘ fun x : Part => (x.f, x.p)) ps).sum : Nat) : Int) = (((x.f.length + x.p.length) + (List.map ((fun x => x.1.length + x.2.length) ∘ fun x : Part => (x.f, x.p)) ps).sum : Nat) : Int)
    omega
theorem PartsOf.text (h : PartsOf ps l) : textOf ps = ptext l := by
  rw [← h]
  unfold textOf ptext
  rw [List.map_map]
  rfl
theorem PartsOf.tst (h : PartsOf ps l) (c j : Nat) : tstP ps c j = ptst l c j := by
  unfold tstP ptst
  rw [← h, List.getElem?_map]
  cases ps[j - 1]? <;> rfl
end
noncomputable def PtOk (x : Pt) : Prop := x.1.length ≤ 1 ∧ ∃ a b, x.2 = ⟨#[a, b]⟩
noncomputable def scOf (M : List Nat) : Str := ⟨(M ++ [32]).toArray⟩
noncomputable def MOk (M : List Nat) : Prop := (∃ c, M = [c] ∨ ∃ d, M = [c, d]) ∧ ∀ c ∈ M, c < 128 ∧ Txt.isspace ⟨#[c]⟩ = false
structure VOk (v : VS) : Prop where
  lines : v.lines.length ≤ 100
  len : v.ps.length ≤ 40
  ps : ∀ x ∈ v.ps, PtOk x
  iv : v.iv ≤ 100
theorem cutIn_items (ps : List Part) {j : Nat} (hj : j ≤ ps.length) : cutIn (itemsOf ps) (some (Int.ofNat j)) none #[] = itemsOf (ps.take j) := by
  unfold cutIn
  rw [sliceBounds_plain]
  have h1 : clipAt (itemsOf ps).size (Int.ofNat j) = j := by
    unfold clipAt
    rw [itemsOf_size]
    have : ¬ (Int.ofNat j < 0) := by show ¬ ((j : Int) < 0); omega
    simp only [this, if_false]
    show (max 0 (min (j : Int) (ps.length : Int))).toNat = j
    omega
  simp only [Option.elim, h1]
  rw [Int.toNat_natCast, Array.append_empty]
  have : (max (j : Int) ((itemsOf ps).size : Int)).toNat = (itemsOf ps).size := by rw [itemsOf_size]; omega
  rw [this]
  apply Array.ext'
  unfold itemsOf
  simp [List.map_take]
theorem slice_items (ps : List Part) (j : Nat) : slicePick (itemsOf ps) (some (Int.ofNat j)) none none = itemsOf (ps.drop j) := by
  have := slicePick_from' (itemsOf ps) j
  show slicePick (itemsOf ps) (some (j : Int)) none none = _
  rw [this]
  unfold itemsOf
  simp [List.map_drop]
theorem findBrk_le {t : Nat → Bool} : ∀ {m j : Nat}, findBrk t m = some j → 1 ≤ j ∧ j ≤ m
  | 0, j, h => by cases h
  | m + 1, j, h => by
    unfold findBrk at h
    split at h
    · cases h; omega
    · have := findBrk_le h; omega
theorem ptot_cons (x : Pt) (l : List Pt) : ptot (x :: l) = x.1.length + x.2.length + ptot l := by simp [ptot]
theorem ptot_snoc (l : List Pt) (x : Pt) : ptot (l ++ [x]) = ptot l + (x.1.length + x.2.length) := by simp [ptot]
theorem ptot_le : ∀ {l : List Pt}, (∀ x ∈ l, PtOk x) → ptot l ≤ 3 * l.length
  | [], _ => by simp [ptot]
  | x :: l, h => by
    have := ptot_le fun y hy => h y (List.mem_cons_of_mem _ hy)
    obtain ⟨h1, a, b, h2⟩ := h x (List.mem_cons_self ..)
    have h3 : x.2.length = 2 := by rw [h2]; rfl
    rw [ptot_cons, List.length_cons]
    omega
end
end Mine

namespace Mine
open PySem PySem.W PySem.W.X
noncomputable section
noncomputable def ctGetQ (i : Nat) : Ct := ⟨4, fun c L q gs tk post => kO (nth q i) fun p => (ctGet (.ref p.1)).pre c L q gs tk post⟩
theorem ctGetQ_ok (w : World) (V : Vol) (i : Nat) : CtOk w V (ctGetQ i) := fun c L q gs tk post h => by
  obtain ⟨p, _, h⟩ := kO_e h
  exact ctGet_ok w V (.ref p.1) c L q gs tk post h
noncomputable def ctPopQ (P : Params) (ys : Array Value) (i : Nat) : Ct := ⟨45, fun c L q gs tk post => kO (nth q i) fun p => 247 ≤ p.1 ∧ (ctPopS P ys (p.1 - 247)).pre c L q gs tk post⟩
theorem ctPopQ_ok (w : World) (V : Vol) (ys : Array Value) (i : Nat) : CtOk w V (ctPopQ w.params ys i) := fun c L q gs tk post h => by
  obtain ⟨p, _, _, h⟩ := kO_e h
  exact ctPopS_ok w V ys (p.1 - 247) c L q gs tk post h
theorem spcT : Spc (S " ") true := by
  show Txt.isspace (S " ") = true
  decide +kernel
theorem eqB : TextEq (S " ") (S " ") true := beq_self_eq_true _
noncomputable def chC (P : Params) (x : Fm × Str × Nat × Str × Nat) : Cl := fmC P 130 x.1 [.str x.2.1 x.2.2.1, .str x.2.2.2.1 x.2.2.2.2]
section
variable (w : World) {y : Fm} {f p : Str} {ft pt : Nat} {q : List (Nat × Obj)} {tk n gz : Nat} {post : Post} {ds : Nat} {τ : Nat → Nat}
theorem chA {sc : Str} {ps1 psT : List Part} {K mx k j : Nat} {ca cb : Nat} {rest : List Nat} (hs : (y.s + 247, vfO (ds + 247)) ∈ q) (hd : (ds + 247, vfD w.params τ (Int.ofNat mx) sc (y.l + 247) (y.x.a + 247)) ∈ q) (h1 : y.x.xs.size ≤ 100000) (h2 : y.ls.size ≤ 1000000)
    (a1 : ∀ t, AcOk ps1 (y.x.xs.push (.ref (t + 247))) ((t + 247, tup2 f ft p pt) :: q)) (hK : y.x.iv + total ps1 = Int.ofNat K) (hKb : K ≤ 1000000)
    (hgt : IntGt (Int.ofNat K) (Int.ofNat mx) false) (hq : ∀ t tk' ep' : Nat, post (.ok (.ret .none)) tk' [lstO y.ls y.el, accO (y.x.d + 247) (y.x.xs.push (.ref (t + 247))) ep', accD w.params y.x.kt y.x.iv y.x.it] [] [(t + 247, tup2 f ft p pt)]) : Runs w V0 170 (chC w.params (y, f, ft, p, pt)).c (chC w.params (y, f, ft, p, pt)).L q [] tk n gz post := by
  exact .go1 (subC hs (subC hd sub0)) (cC (ctPush_ok w V0) <| cC (ctLenB_ok w ps1 K) <| c1 (ctGt_ok w V0 false)) [0,5,5,5,5,5,5,0,1,5,1,0,0,0,0,0,1,0,0,0,0,1,0,1,0,0,1,1,3,0,0,0,3,0,0,0,3,0,0,0,0,3,4,5,5,0,2,0,2,1,2,0,0,5,1,0,0,0,0,0,1,0,0,0,0,1,0,1,0,0,1,1,0,2,1,2,1,2,5,1,0,0,0,0,0,1,0,0,0,0,1,0,1,0,0,1,1,0,2,2,0] [] [] 1 (by kernel_rfl) (by kernel_rfl) (ai (r7 [n,n,y.x.2,y.x.1,y.x.1,y.x.1,y.x.1,ds,y.1,y.1,y.1,y.1,n,n,n,n,n,n,n]) (ai (rf (puC w.params (({ a := y.x.a, d := y.x.d, xs := y.x.xs, ep := y.x.ep, kt := y.x.kt, iv := y.x.iv, it := y.x.it }, f, ft, p, pt)))) (ai h1 (fun (tk' : Nat) (ep' : Nat) => fun (t : Nat) (n' : Nat) => fun (gz' : Nat) => ai (r7 [ds,y.1,y.1,y.1,y.1,n]) (ai (rf (leC w.params ⟨y.x.a, y.x.d, y.x.xs.push (Value.ref (t + 247)), ep', y.x.kt, y.x.iv, y.x.it⟩)) (ai (a1 t) (ai (rf ([] : List (Nat × Code))) (ai hK (ai hKb (fun (t1 : Nat) (tk'1 : Nat) => fun (n'1 : Nat) (gz'1 : Nat) => ai (r7 [ds,y.1,y.1,y.1,y.1,n]) (ai hgt (fun (n'2 : Nat) (gz'2 : Nat) => ai (r7 []) (hq t (tk'1 + 1) ep')))))))))))))
theorem chB1 {ps1 psT : List Part} {K mx k j : Nat} {ca cb : Nat} {rest : List Nat} (hs : (y.s + 247, vfO (ds + 247)) ∈ q) (hd : (ds + 247, vfD w.params τ (Int.ofNat mx) ⟨(ca :: rest).toArray⟩ (y.l + 247) (y.x.a + 247)) ∈ q) (h1 : y.x.xs.size ≤ 100000) (h2 : y.ls.size ≤ 1000000)
    (a1 : ∀ t, AcOk ps1 (y.x.xs.push (.ref (t + 247))) ((t + 247, tup2 f ft p pt) :: q)) (hK : y.x.iv + total ps1 = Int.ofNat K) (hKb : K ≤ 1000000)
    (sp1 : Spc ⟨#[ca]⟩ false) (b1 : Brk ps1 ca (k + 1) (some j)) (hgt : IntGt (Int.ofNat K) (Int.ofNat mx) true) (hsc : Ascii ⟨(ca :: rest).toArray⟩) (z1 : ∀ t : Nat, (y.x.xs.push (.ref (t + 247))).size = k + 2) (hk : k ≤ 1000) (tw : Two ps1) (ln : k + 1 < ps1.length)
    (s1 : ∀ t : Nat, (y.x.xs.push (.ref (t + 247))).size ≤ 100000) (s2 : ∀ t : Nat, (cutIn (y.x.xs.push (.ref (t + 247))) (some (Int.ofNat j)) none #[]).size ≤ 100000) (s3 : ∀ t : Nat, (slicePick (y.x.xs.push (.ref (t + 247))) (some (Int.ofNat j)) none none).size ≤ 100000)
    (a2 : ∀ t, AcOk psT (cutIn (y.x.xs.push (.ref (t + 247))) (some (Int.ofNat j)) none #[]) ((t + 247, tup2 f ft p pt) :: q)) (hv : ∀ t, VfS w.params (y.s + 247) (y.x.a + 247) ((t + 247, tup2 f ft p pt) :: q))
    (hq : ∀ t tk' epl' ep' t' tt : Nat, post (.ok (.ret .none)) tk' [lstO (y.ls.push (.str (textOf psT) tt)) epl', accO (y.x.d + 247) (cutIn (cutIn (y.x.xs.push (.ref (t + 247))) (some (Int.ofNat j)) none #[]) none none (slicePick (y.x.xs.push (.ref (t + 247))) (some (Int.ofNat j)) none none)) ep', accD w.params y.x.kt 0 t'] [] [(t + 247, tup2 f ft p pt)]) : Runs w V0 170 (chC w.params (y, f, ft, p, pt)).c (chC w.params (y, f, ft, p, pt)).L q [] tk n gz post := by
  have h0 : Int.ofNat (k + 2) - 1 = Int.ofNat (k + 1) := by show ((k + 2 : Nat) : Int) - 1 = ((k + 1 : Nat) : Int); omega
  exact .go1 (subC hs (subC hd sub0)) (cC (ctPush_ok w V0) <| cC (ctLenB_ok w ps1 K) <| cC (ctGt_ok w V0 true) <| cC (ctCountN_ok w V0 (k + 2)) <| cC (ctPopFrom_ok w V0) <| cC (ctReset1_ok w V0) <| cC (ctPopQ_ok w V0 y.x.xs 0) <| cC (ctNewl_ok w [] (S "")) <| cC (ctStrB_ok w psT) <| cC (ctApp_ok w V0) <| cC (ctSub_ok w V0 (Int.ofNat (k + 1))) <| cC (ctRNew_ok w V0 k) <| cC (ctRIter_ok w V0 k) <| cC (ctSpace_ok w V0 true) <| cC (ctGetQ_ok w V0 0) <| cC (ctEq_ok w V0 true) <| cC (ctIn0_ok w V0 ps1 ca (some j) (k + 1)) <| cC (ctIn_ok w V0 ps1 ca (some j) (k + 1)) <| c1 (ctSIter_ok w V0)) [0,5,5,5,5,5,5,0,1,5,1,0,0,0,0,0,1,0,0,0,0,1,0,1,0,0,1,1,3,0,0,0,3,0,0,0,3,0,0,0,0,3,4,5,5,0,2,0,2,1,2,0,0,5,1,0,0,0,0,0,1,0,0,0,0,1,0,1,0,0,1,1,0,2,1,2,1,2,5,1,0,0,0,0,0,1,0,0,0,0,1,0,1,0,0,1,1,0,2,2,0,5,1,0,0,0,0,0,1,0,0,0,0,1,0,1,0,0,1,1,0,2,18,0,6,0,6,0,6,0,6,6,6,6,5,5,0,0,5,1,0,0,0,0,0,1,0,0,0,0,1,0,1,0,0,1,1,3,0,0,0,3,0,0,0,3,0,0,0,0,3,4,0,2,3,2,1,2,0,2,10,0,0,0,0,0,0,2,11,0,7,7,0,7,0,7,7,7,0,7,2,12,1,5,8,2,16,3,3,6,1,5,1,0,0,0,0,0,1,0,0,0,0,1,0,1,0,0,1,1,3,0,0,0,3,0,0,0,3,0,0,0,0,3,4,5,0,2,4,2,1,2,5,5,5,1,0,0,0,0,0,1,0,0,0,0,1,0,1,0,0,1,1,2,2,2,2,0,0,5,1,0,0,0,0,0,1,0,0,0,0,1,0,1,0,0,1,1,0,0,0,2,8,2,1,2,0,0,0,2,2,9,1,0,5,1,0,0,0,0,0,1,0,0,0,0,1,0,1,0,0,1,1,3,0,0,0,3,0,0,0,3,0,0,0,0,3,4,5,0,2,5,3,1,2,7] [] [] 1 (by kernel_rfl) (by kernel_rfl) (ai (r7 [n,n,y.x.2,y.x.1,y.x.1,y.x.1,y.x.1,ds,y.1,y.1,y.1,y.1,n,n,n,n,n,n,n]) (ai (rf (puC w.params (({ a := y.x.a, d := y.x.d, xs := y.x.xs, ep := y.x.ep, kt := y.x.kt, iv := y.x.iv, it := y.x.it }, f, ft, p, pt)))) (ai h1 (fun (tk' : Nat) (ep' : Nat) => fun (t : Nat) (n' : Nat) => fun (gz' : Nat) => ai (r7 [ds,y.1,y.1,y.1,y.1,n]) (ai (rf (leC w.params ⟨y.x.a, y.x.d, y.x.xs.push (Value.ref (t + 247)), ep', y.x.kt, y.x.iv, y.x.it⟩)) (ai (a1 t) (ai (rf ([] : List (Nat × Code))) (ai hK (ai hKb (fun (t1 : Nat) (tk'1 : Nat) => fun (n'1 : Nat) (gz'1 : Nat) => ai (r7 [ds,y.1,y.1,y.1,y.1,n]) (ai hgt (fun (n'2 : Nat) (gz'2 : Nat) => ai (r7 [ds,y.1,y.1,y.1,y.1,n]) (ai (rf (siC (({ cps := (ca :: rest).toArray }, τ 7)))) (ai hsc (fun (n1 : Nat) (n'3 : Nat) => fun (gz'3 : Nat) => ai (r7 [y.x.2,y.x.1,y.x.1,y.x.1,y.x.1,ds,y.1,y.1,y.1,y.1,n,n,n,n1,n1,n1,n1,n1,n1,n1]) (ai (rf (acC w.params 214 ⟨y.x.a, y.x.d, y.x.xs.push (Value.ref (t + 247)), ep', y.x.kt, y.x.iv, y.x.it⟩ [] [])) (ai (z1 t) (fun (tk'2 : Nat) (t2 : Nat) => fun (n'4 : Nat) (gz'4 : Nat) => ai (r7 []) (ai h0 (fun (n'5 : Nat) (gz'5 : Nat) => ai (r7 []) (ai (rf (rnC k ((tk'2 + 1, tk'2 + 2, tk'2 + 4)))) (ai hk (fun (r : Nat) (n'6 : Nat) => fun (gz'6 : Nat) => ai (r7 [r,r,r,r,r,r,r]) (ai (rf (riC k ((r, tk'2 + 1, tk'2 + 2, tk'2 + 4)))) (ai hk (fun (n2 : Nat) (n'7 : Nat) => fun (gz'7 : Nat) => ai (r7 [n2]) (ai (rf (il0 w.params ⟨n2, n, y.s, f, p, { cps := #[ca] }, 0, S "", 4, [tk, tk + 1, ft, tk + 2, pt, tk'1 + 3, tk'1 + 2, 0, 0, 0, 0], Int.ofNat (k + 1), S "_ValueFormatter._append_chunk.<locals>.", some 130, Value.ref 129, some (n + 247), y.x.a, y.x.d, y.x.xs.push (Value.ref (t + 247)), ep'⟩)) (ai (by omega : 0 < k + 1) (ai (rf (Int.ofNat (k + 1) : Int)) (ai (rf ({ cps := #[ca] } : Str)) (ai sp1 (ai (hv t) (ai (a1 t) (ai tw (ai ln (ai b1 (fun (tk'3 : Nat) (ee' : Nat) => fun (t0 t11 t21 t3 t4 t5 : Nat) (t6 t7 t8 t9 t10 : Nat) => fun (pv' : Str) (io' : Obj) => fun (n'8 : Nat) (gz'8 : Nat) => ai (r7 [n,y.x.2,y.x.1,y.x.1,y.x.1,y.x.1,ds,y.1,y.1,y.1,y.1,n]) (ai (rf (pfC w.params (({ a := y.x.a, d := y.x.d, xs := y.x.xs.push (Value.ref (t + 247)), ep := ep', kt := y.x.kt, iv := y.x.iv, it := y.x.it }, Int.ofNat j, t8)))) (ai (s1 t) (fun (tk'4 : Nat) (ep'1 : Nat) => fun (r1 epr : Nat) (n'9 : Nat) => fun (gz'9 : Nat) => ai (r7 [ds,y.1,y.1,y.1,y.1,n,y.2,y.2,y.2,y.2,ds,y.1,y.1,y.1,y.1,n,n,n]) (ai (rf (stC w.params ⟨y.x.a, y.x.d, cutIn (y.x.xs.push (Value.ref (t + 247))) (some (Int.ofNat j)) none #[], ep'1, y.x.kt, y.x.iv, y.x.it⟩)) (ai (a2 t) (ai (rf ([] : List (Nat × Code))) (fun (t12 : Nat) (tk'5 : Nat) => fun (n'10 : Nat) (gz'10 : Nat) => ai (r7 [y.2]) (ai (rf (y.l + 247)) (ai h2 (fun (ep'2 : Nat) (n'11 : Nat) => fun (gz'11 : Nat) => ai (r7 [n,y.x.2,y.x.1,y.x.1,y.x.1,y.x.1,ds,y.1,y.1,y.1,y.1,n]) (ai (rf (rsC w.params (({ a := y.x.a, d := y.x.d, xs := cutIn (y.x.xs.push (Value.ref (t + 247))) (some (Int.ofNat j)) none #[], ep := ep'1, kt := y.x.kt, iv := y.x.iv, it := y.x.it }, r1, slicePick (y.x.xs.push (Value.ref (t + 247))) (some (Int.ofNat j)) none none, epr)))) (ai (s2 t) (ai (s3 t) (fun (tk'6 : Nat) (ep'3 : Nat) => fun (t' : Nat) (n'12 : Nat) => fun (gz'12 : Nat) => ai (r7 []) (hq t tk'6 ep'2 ep'3 t' t12))))))))))))))))))))))))))))))))))))))))))))))))))))
theorem chB2 {ps1 psT : List Part} {K mx k j : Nat} {ca cb : Nat} {rest : List Nat} (hs : (y.s + 247, vfO (ds + 247)) ∈ q) (hd : (ds + 247, vfD w.params τ (Int.ofNat mx) ⟨#[ca, 32]⟩ (y.l + 247) (y.x.a + 247)) ∈ q) (h1 : y.x.xs.size ≤ 100000) (h2 : y.ls.size ≤ 1000000)
    (a1 : ∀ t, AcOk ps1 (y.x.xs.push (.ref (t + 247))) ((t + 247, tup2 (S " ") ft p pt) :: q)) (hK : y.x.iv + total ps1 = Int.ofNat K) (hKb : K ≤ 1000000)
    (sp1 : Spc ⟨#[ca]⟩ false) (b1 : Brk ps1 ca (k + 1) none) (ha : ∀ t : Nat, AtI (y.x.xs.push (.ref (t + 247))) (Int.ofNat (k + 1)) (.ref (t + 247))) (g1 : Int.ofNat (k + 1) < 1000000) (hgt : IntGt (Int.ofNat K) (Int.ofNat mx) true) (hsc : Ascii ⟨#[ca, 32]⟩) (z1 : ∀ t : Nat, (y.x.xs.push (.ref (t + 247))).size = k + 2) (hk : k ≤ 1000) (tw : Two ps1) (ln : k + 1 < ps1.length)
    (s1 : ∀ t : Nat, (y.x.xs.push (.ref (t + 247))).size ≤ 100000) (s2 : ∀ t : Nat, (cutIn (y.x.xs.push (.ref (t + 247))) (some (Int.ofNat (k + 1))) none #[]).size ≤ 100000) (s3 : ∀ t : Nat, (slicePick (y.x.xs.push (.ref (t + 247))) (some (Int.ofNat (k + 1))) none none).size ≤ 100000)
    (a2 : ∀ t, AcOk psT (cutIn (y.x.xs.push (.ref (t + 247))) (some (Int.ofNat (k + 1))) none #[]) ((t + 247, tup2 (S " ") ft p pt) :: q)) (hv : ∀ t, VfS w.params (y.s + 247) (y.x.a + 247) ((t + 247, tup2 (S " ") ft p pt) :: q))
    (hq : ∀ t tk' epl' ep' t' tt : Nat, post (.ok (.ret .none)) tk' [lstO (y.ls.push (.str (textOf psT) tt)) epl', accO (y.x.d + 247) (cutIn (cutIn (y.x.xs.push (.ref (t + 247))) (some (Int.ofNat (k + 1))) none #[]) none none (slicePick (y.x.xs.push (.ref (t + 247))) (some (Int.ofNat (k + 1))) none none)) ep', accD w.params y.x.kt 0 t'] [] [(t + 247, tup2 (S " ") ft p pt)]) : Runs w V0 170 (chC w.params (y, S " ", ft, p, pt)).c (chC w.params (y, S " ", ft, p, pt)).L q [] tk n gz post := by
  have h0 : Int.ofNat (k + 2) - 1 = Int.ofNat (k + 1) := by show ((k + 2 : Nat) : Int) - 1 = ((k + 1 : Nat) : Int); omega
  have g0 : 0 ≤ Int.ofNat (k + 1) := Int.natCast_nonneg _
  have g2 := spcT
  have g3 := eqB
  exact .go1 (subC hs (subC hd sub0)) (cC (ctPush_ok w V0) <| cC (ctLenB_ok w ps1 K) <| cC (ctGt_ok w V0 true) <| cC (ctCountN_ok w V0 (k + 2)) <| cC (ctPopFrom_ok w V0) <| cC (ctReset1_ok w V0) <| cC (ctPopQ_ok w V0 y.x.xs 0) <| cC (ctNewl_ok w [] (S "")) <| cC (ctStrB_ok w psT) <| cC (ctApp_ok w V0) <| cC (ctSub_ok w V0 (Int.ofNat (k + 1))) <| cC (ctRNew_ok w V0 k) <| cC (ctRIter_ok w V0 k) <| cC (ctSpace_ok w V0 true) <| cC (ctGetQ_ok w V0 0) <| cC (ctEq_ok w V0 true) <| cC (ctIn0_ok w V0 ps1 ca none (k + 1)) <| cC (ctIn_ok w V0 ps1 ca none (k + 1)) <| c1 (ctSIter_ok w V0)) [0,5,5,5,5,5,5,0,1,5,1,0,0,0,0,0,1,0,0,0,0,1,0,1,0,0,1,1,3,0,0,0,3,0,0,0,3,0,0,0,0,3,4,5,5,0,2,0,2,1,2,0,0,5,1,0,0,0,0,0,1,0,0,0,0,1,0,1,0,0,1,1,0,2,1,2,1,2,5,1,0,0,0,0,0,1,0,0,0,0,1,0,1,0,0,1,1,0,2,2,0,5,1,0,0,0,0,0,1,0,0,0,0,1,0,1,0,0,1,1,0,2,18,0,6,0,6,0,6,0,6,6,6,6,5,5,0,0,5,1,0,0,0,0,0,1,0,0,0,0,1,0,1,0,0,1,1,3,0,0,0,3,0,0,0,3,0,0,0,0,3,4,0,2,3,2,1,2,0,2,10,0,0,0,0,0,0,2,11,0,7,7,0,7,0,7,7,7,0,7,2,12,1,5,8,2,16,3,3,6,1,0,6,0,6,0,6,6,6,6,5,5,0,0,5,1,0,0,0,0,0,1,0,0,0,0,1,0,1,0,0,1,1,3,0,0,0,3,0,0,0,3,0,0,0,0,3,4,0,2,3,2,1,2,0,2,10,0,0,0,0,0,0,2,11,0,9,9,0,9,0,9,9,9,0,9,2,12,1,7,10,0,10,0,10,0,10,10,10,10,10,10,10,5,5,5,0,2,13,0,5,1,0,0,0,0,0,1,0,0,0,0,1,0,1,0,0,1,1,5,3,0,0,0,3,0,3,0,0,0,0,3,0,2,14,1,1,0,1,100,1,100,1,100,0,1,100,0,1,100,0,5,5,5,0,0,0,5,0,0,5,0,2,15,0,5,1,0,0,0,0,0,1,0,0,0,0,1,0,1,0,0,1,1,3,0,0,0,3,0,0,0,3,0,0,0,0,3,4,5,0,2,4,2,1,2,5,5,5,1,0,0,0,0,0,1,0,0,0,0,1,0,1,0,0,1,1,2,2,2,2,0,0,5,1,0,0,0,0,0,1,0,0,0,0,1,0,1,0,0,1,1,0,0,0,2,8,2,1,2,0,0,0,2,2,9,1,0,5,1,0,0,0,0,0,1,0,0,0,0,1,0,1,0,0,1,1,3,0,0,0,3,0,0,0,3,0,0,0,0,3,4,5,0,2,5,3,1,2,9] [] [] 1 (by kernel_rfl) (by kernel_rfl) (ai (r7 [n,n,y.x.2,y.x.1,y.x.1,y.x.1,y.x.1,ds,y.1,y.1,y.1,y.1,n,n,n,n,n,n,n]) (ai (rf (puC w.params (({ a := y.x.a, d := y.x.d, xs := y.x.xs, ep := y.x.ep, kt := y.x.kt, iv := y.x.iv, it := y.x.it }, S " ", ft, p, pt)))) (ai h1 (fun (tk' : Nat) (ep' : Nat) => fun (t : Nat) (n' : Nat) => fun (gz' : Nat) => ai (r7 [ds,y.1,y.1,y.1,y.1,n]) (ai (rf (leC w.params ⟨y.x.a, y.x.d, y.x.xs.push (Value.ref (t + 247)), ep', y.x.kt, y.x.iv, y.x.it⟩)) (ai (a1 t) (ai (rf ([] : List (Nat × Code))) (ai hK (ai hKb (fun (t1 : Nat) (tk'1 : Nat) => fun (n'1 : Nat) (gz'1 : Nat) => ai (r7 [ds,y.1,y.1,y.1,y.1,n]) (ai hgt (fun (n'2 : Nat) (gz'2 : Nat) => ai (r7 [ds,y.1,y.1,y.1,y.1,n]) (ai (rf (siC (({ cps := #[ca, 32] }, τ 7)))) (ai hsc (fun (n1 : Nat) (n'3 : Nat) => fun (gz'3 : Nat) => ai (r7 [y.x.2,y.x.1,y.x.1,y.x.1,y.x.1,ds,y.1,y.1,y.1,y.1,n,n,n,n1,n1,n1,n1,n1,n1,n1]) (ai (rf (acC w.params 214 ⟨y.x.a, y.x.d, y.x.xs.push (Value.ref (t + 247)), ep', y.x.kt, y.x.iv, y.x.it⟩ [] [])) (ai (z1 t) (fun (tk'2 : Nat) (t2 : Nat) => fun (n'4 : Nat) (gz'4 : Nat) => ai (r7 []) (ai h0 (fun (n'5 : Nat) (gz'5 : Nat) => ai (r7 []) (ai (rf (rnC k ((tk'2 + 1, tk'2 + 2, tk'2 + 4)))) (ai hk (fun (r : Nat) (n'6 : Nat) => fun (gz'6 : Nat) => ai (r7 [r,r,r,r,r,r,r]) (ai (rf (riC k ((r, tk'2 + 1, tk'2 + 2, tk'2 + 4)))) (ai hk (fun (n2 : Nat) (n'7 : Nat) => fun (gz'7 : Nat) => ai (r7 [n2]) (ai (rf (il0 w.params ⟨n2, n, y.s, S " ", p, { cps := #[ca] }, 0, S "", 4, [tk, tk + 1, ft, tk + 2, pt, tk'1 + 3, tk'1 + 2, 0, 0, 0, 0], Int.ofNat (k + 1), S "_ValueFormatter._append_chunk.<locals>.", some 130, Value.ref 129, some (n + 247), y.x.a, y.x.d, y.x.xs.push (Value.ref (t + 247)), ep'⟩)) (ai (by omega : 0 < k + 1) (ai (rf (Int.ofNat (k + 1) : Int)) (ai (rf ({ cps := #[ca] } : Str)) (ai sp1 (ai (hv t) (ai (a1 t) (ai tw (ai ln (ai b1 (fun (tk'3 : Nat) (ee' : Nat) => fun (t0 t11 t21 t3 t4 t5 : Nat) (t6 t7 t8 t9 t10 : Nat) => fun (i' : Int) (pv' : Str) => fun (io' : Obj) (n'8 : Nat) => fun (gz'8 : Nat) => ai (r7 [y.x.2,y.x.1,y.x.1,y.x.1,y.x.1,ds,y.1,y.1,y.1,y.1,n,n,n,n1,n1,n1,n1,n1,n1]) (ai (rf (acC w.params 214 ⟨y.x.a, y.x.d, y.x.xs.push (Value.ref (t + 247)), ep', y.x.kt, y.x.iv, y.x.it⟩ [] [])) (ai (z1 t) (fun (tk'4 : Nat) (t12 : Nat) => fun (n'9 : Nat) (gz'9 : Nat) => ai (r7 []) (ai h0 (fun (n'10 : Nat) (gz'10 : Nat) => ai (r7 []) (ai (rf (rnC k ((tk'4 + 1, tk'4 + 2, tk'4 + 4)))) (ai hk (fun (r1 : Nat) (n'11 : Nat) => fun (gz'11 : Nat) => ai (r7 [r1,r1,r1,r1,r1,r1,r1]) (ai (rf (riC k ((r1, tk'4 + 1, tk'4 + 2, tk'4 + 4)))) (ai hk (fun (n3 : Nat) (n'12 : Nat) => fun (gz'12 : Nat) => ai (r7 [n,n,n,n3,n3,n3,n3,n3,n3,n3,n3,n3,n3]) (ai g2 (fun (n'13 : Nat) (gz'13 : Nat) => ai (r7 [y.x.1,y.x.1,y.x.1,y.x.1,n,ds,y.1,y.1,y.1,y.1,n]) (ai (rf (y.x.a + 247)) (ai g0 (ai g1 (ai (ha t) (fun (n'14 : Nat) (gz'14 : Nat) => ai (r7 [n,n,n,n,n,t,t,t,t,t]) (ai g3 (fun (n'15 : Nat) (gz'15 : Nat) => ai (r7 [n,y.x.2,y.x.1,y.x.1,y.x.1,y.x.1,ds,y.1,y.1,y.1,y.1,n]) (ai (rf (pfC w.params (({ a := y.x.a, d := y.x.d, xs := y.x.xs.push (Value.ref (t + 247)), ep := ep', kt := y.x.kt, iv := y.x.iv, it := y.x.it }, Int.ofNat (k + 1), tk'4 + 5)))) (ai (s1 t) (fun (tk'5 : Nat) (ep'1 : Nat) => fun (r2 epr : Nat) (n'16 : Nat) => fun (gz'16 : Nat) => ai (r7 [ds,y.1,y.1,y.1,y.1,n,y.2,y.2,y.2,y.2,ds,y.1,y.1,y.1,y.1,n,n,n]) (ai (rf (stC w.params ⟨y.x.a, y.x.d, cutIn (y.x.xs.push (Value.ref (t + 247))) (some (Int.ofNat (k + 1))) none #[], ep'1, y.x.kt, y.x.iv, y.x.it⟩)) (ai (a2 t) (ai (rf ([] : List (Nat × Code))) (fun (t13 : Nat) (tk'6 : Nat) => fun (n'17 : Nat) (gz'17 : Nat) => ai (r7 [y.2]) (ai (rf (y.l + 247)) (ai h2 (fun (ep'2 : Nat) (n'18 : Nat) => fun (gz'18 : Nat) => ai (r7 [n,y.x.2,y.x.1,y.x.1,y.x.1,y.x.1,ds,y.1,y.1,y.1,y.1,n]) (ai (rf (rsC w.params (({ a := y.x.a, d := y.x.d, xs := cutIn (y.x.xs.push (Value.ref (t + 247))) (some (Int.ofNat (k + 1))) none #[], ep := ep'1, kt := y.x.kt, iv := y.x.iv, it := y.x.it }, r2, slicePick (y.x.xs.push (Value.ref (t + 247))) (some (Int.ofNat (k + 1))) none none, epr)))) (ai (s2 t) (ai (s3 t) (fun (tk'7 : Nat) (ep'3 : Nat) => fun (t' : Nat) (n'19 : Nat) => fun (gz'19 : Nat) => ai (r7 []) (hq t tk'7 ep'2 ep'3 t' t13))))))))))))))))))))))))))))))))))))))))))))))))))))))))))))))))))))))))
theorem chB4 {ps1 psT : List Part} {K mx k j : Nat} {ca cb : Nat} {rest : List Nat} (hs : (y.s + 247, vfO (ds + 247)) ∈ q) (hd : (ds + 247, vfD w.params τ (Int.ofNat mx) ⟨(ca :: cb :: rest).toArray⟩ (y.l + 247) (y.x.a + 247)) ∈ q) (h1 : y.x.xs.size ≤ 100000) (h2 : y.ls.size ≤ 1000000)
    (a1 : ∀ t, AcOk ps1 (y.x.xs.push (.ref (t + 247))) ((t + 247, tup2 f ft p pt) :: q)) (hK : y.x.iv + total ps1 = Int.ofNat K) (hKb : K ≤ 1000000)
    (sp1 : Spc ⟨#[ca]⟩ false) (b1 : Brk ps1 ca (k + 1) none) (sp2 : Spc ⟨#[cb]⟩ false) (b2 : Brk ps1 cb (k + 1) (some j)) (hgt : IntGt (Int.ofNat K) (Int.ofNat mx) true) (hsc : Ascii ⟨(ca :: cb :: rest).toArray⟩) (z1 : ∀ t : Nat, (y.x.xs.push (.ref (t + 247))).size = k + 2) (hk : k ≤ 1000) (tw : Two ps1) (ln : k + 1 < ps1.length)
    (s1 : ∀ t : Nat, (y.x.xs.push (.ref (t + 247))).size ≤ 100000) (s2 : ∀ t : Nat, (cutIn (y.x.xs.push (.ref (t + 247))) (some (Int.ofNat j)) none #[]).size ≤ 100000) (s3 : ∀ t : Nat, (slicePick (y.x.xs.push (.ref (t + 247))) (some (Int.ofNat j)) none none).size ≤ 100000)
    (a2 : ∀ t, AcOk psT (cutIn (y.x.xs.push (.ref (t + 247))) (some (Int.ofNat j)) none #[]) ((t + 247, tup2 f ft p pt) :: q)) (hv : ∀ t, VfS w.params (y.s + 247) (y.x.a + 247) ((t + 247, tup2 f ft p pt) :: q))
    (hq : ∀ t tk' epl' ep' t' tt : Nat, post (.ok (.ret .none)) tk' [lstO (y.ls.push (.str (textOf psT) tt)) epl', accO (y.x.d + 247) (cutIn (cutIn (y.x.xs.push (.ref (t + 247))) (some (Int.ofNat j)) none #[]) none none (slicePick (y.x.xs.push (.ref (t + 247))) (some (Int.ofNat j)) none none)) ep', accD w.params y.x.kt 0 t'] [] [(t + 247, tup2 f ft p pt)]) : Runs w V0 170 (chC w.params (y, f, ft, p, pt)).c (chC w.params (y, f, ft, p, pt)).L q [] tk n gz post := by
  have h0 : Int.ofNat (k + 2) - 1 = Int.ofNat (k + 1) := by show ((k + 2 : Nat) : Int) - 1 = ((k + 1 : Nat) : Int); omega
  exact .go1 (subC hs (subC hd sub0)) (cC (ctPush_ok w V0) <| cC (ctLenB_ok w ps1 K) <| cC (ctGt_ok w V0 true) <| cC (ctCountN_ok w V0 (k + 2)) <| cC (ctPopFrom_ok w V0) <| cC (ctReset1_ok w V0) <| cC (ctPopQ_ok w V0 y.x.xs 0) <| cC (ctNewl_ok w [] (S "")) <| cC (ctStrB_ok w psT) <| cC (ctApp_ok w V0) <| cC (ctSub_ok w V0 (Int.ofNat (k + 1))) <| cC (ctRNew_ok w V0 k) <| cC (ctRIter_ok w V0 k) <| cC (ctSpace_ok w V0 true) <| cC (ctGetQ_ok w V0 0) <| cC (ctEq_ok w V0 true) <| cC (ctIn0_ok w V0 ps1 ca none (k + 1)) <| cC (ctIn_ok w V0 ps1 cb (some j) (k + 1)) <| c1 (ctSIter_ok w V0)) [0,5,5,5,5,5,5,0,1,5,1,0,0,0,0,0,1,0,0,0,0,1,0,1,0,0,1,1,3,0,0,0,3,0,0,0,3,0,0,0,0,3,4,5,5,0,2,0,2,1,2,0,0,5,1,0,0,0,0,0,1,0,0,0,0,1,0,1,0,0,1,1,0,2,1,2,1,2,5,1,0,0,0,0,0,1,0,0,0,0,1,0,1,0,0,1,1,0,2,2,0,5,1,0,0,0,0,0,1,0,0,0,0,1,0,1,0,0,1,1,0,2,18,0,6,0,6,0,6,0,6,6,6,6,5,5,0,0,5,1,0,0,0,0,0,1,0,0,0,0,1,0,1,0,0,1,1,3,0,0,0,3,0,0,0,3,0,0,0,0,3,4,0,2,3,2,1,2,0,2,10,0,0,0,0,0,0,2,11,0,7,7,0,7,0,7,7,7,0,7,2,12,1,5,8,2,16,3,3,6,1,0,6,0,6,0,6,6,6,6,5,5,0,0,5,1,0,0,0,0,0,1,0,0,0,0,1,0,1,0,0,1,1,3,0,0,0,3,0,0,0,3,0,0,0,0,3,4,0,2,3,2,1,2,0,2,10,0,0,0,0,0,0,2,11,0,9,9,0,9,0,9,9,9,0,9,2,12,1,7,10,2,17,3,3,8,1,5,1,0,0,0,0,0,1,0,0,0,0,1,0,1,0,0,1,1,3,0,0,0,3,0,0,0,3,0,0,0,0,3,4,5,0,2,4,2,1,2,5,5,5,1,0,0,0,0,0,1,0,0,0,0,1,0,1,0,0,1,1,2,2,2,2,0,0,5,1,0,0,0,0,0,1,0,0,0,0,1,0,1,0,0,1,1,0,0,0,2,8,2,1,2,0,0,0,2,2,9,1,0,5,1,0,0,0,0,0,1,0,0,0,0,1,0,1,0,0,1,1,3,0,0,0,3,0,0,0,3,0,0,0,0,3,4,5,0,2,5,3,1,2,9] [] [] 1 (by kernel_rfl) (by kernel_rfl) (ai (r7 [n,n,y.x.2,y.x.1,y.x.1,y.x.1,y.x.1,ds,y.1,y.1,y.1,y.1,n,n,n,n,n,n,n]) (ai (rf (puC w.params (({ a := y.x.a, d := y.x.d, xs := y.x.xs, ep := y.x.ep, kt := y.x.kt, iv := y.x.iv, it := y.x.it }, f, ft, p, pt)))) (ai h1 (fun (tk' : Nat) (ep' : Nat) => fun (t : Nat) (n' : Nat) => fun (gz' : Nat) => ai (r7 [ds,y.1,y.1,y.1,y.1,n]) (ai (rf (leC w.params ⟨y.x.a, y.x.d, y.x.xs.push (Value.ref (t + 247)), ep', y.x.kt, y.x.iv, y.x.it⟩)) (ai (a1 t) (ai (rf ([] : List (Nat × Code))) (ai hK (ai hKb (fun (t1 : Nat) (tk'1 : Nat) => fun (n'1 : Nat) (gz'1 : Nat) => ai (r7 [ds,y.1,y.1,y.1,y.1,n]) (ai hgt (fun (n'2 : Nat) (gz'2 : Nat) => ai (r7 [ds,y.1,y.1,y.1,y.1,n]) (ai (rf (siC (({ cps := (ca :: cb :: rest).toArray }, τ 7)))) (ai hsc (fun (n1 : Nat) (n'3 : Nat) => fun (gz'3 : Nat) => ai (r7 [y.x.2,y.x.1,y.x.1,y.x.1,y.x.1,ds,y.1,y.1,y.1,y.1,n,n,n,n1,n1,n1,n1,n1,n1,n1]) (ai (rf (acC w.params 214 ⟨y.x.a, y.x.d, y.x.xs.push (Value.ref (t + 247)), ep', y.x.kt, y.x.iv, y.x.it⟩ [] [])) (ai (z1 t) (fun (tk'2 : Nat) (t2 : Nat) => fun (n'4 : Nat) (gz'4 : Nat) => ai (r7 []) (ai h0 (fun (n'5 : Nat) (gz'5 : Nat) => ai (r7 []) (ai (rf (rnC k ((tk'2 + 1, tk'2 + 2, tk'2 + 4)))) (ai hk (fun (r : Nat) (n'6 : Nat) => fun (gz'6 : Nat) => ai (r7 [r,r,r,r,r,r,r]) (ai (rf (riC k ((r, tk'2 + 1, tk'2 + 2, tk'2 + 4)))) (ai hk (fun (n2 : Nat) (n'7 : Nat) => fun (gz'7 : Nat) => ai (r7 [n2]) (ai (rf (il0 w.params ⟨n2, n, y.s, f, p, { cps := #[ca] }, 0, S "", 4, [tk, tk + 1, ft, tk + 2, pt, tk'1 + 3, tk'1 + 2, 0, 0, 0, 0], Int.ofNat (k + 1), S "_ValueFormatter._append_chunk.<locals>.", some 130, Value.ref 129, some (n + 247), y.x.a, y.x.d, y.x.xs.push (Value.ref (t + 247)), ep'⟩)) (ai (by omega : 0 < k + 1) (ai (rf (Int.ofNat (k + 1) : Int)) (ai (rf ({ cps := #[ca] } : Str)) (ai sp1 (ai (hv t) (ai (a1 t) (ai tw (ai ln (ai b1 (fun (tk'3 : Nat) (ee' : Nat) => fun (t0 t11 t21 t3 t4 t5 : Nat) (t6 t7 t8 t9 t10 : Nat) => fun (i' : Int) (pv' : Str) => fun (io' : Obj) (n'8 : Nat) => fun (gz'8 : Nat) => ai (r7 [y.x.2,y.x.1,y.x.1,y.x.1,y.x.1,ds,y.1,y.1,y.1,y.1,n,n,n,n1,n1,n1,n1,n1,n1]) (ai (rf (acC w.params 214 ⟨y.x.a, y.x.d, y.x.xs.push (Value.ref (t + 247)), ep', y.x.kt, y.x.iv, y.x.it⟩ [] [])) (ai (z1 t) (fun (tk'4 : Nat) (t12 : Nat) => fun (n'9 : Nat) (gz'9 : Nat) => ai (r7 []) (ai h0 (fun (n'10 : Nat) (gz'10 : Nat) => ai (r7 []) (ai (rf (rnC k ((tk'4 + 1, tk'4 + 2, tk'4 + 4)))) (ai hk (fun (r1 : Nat) (n'11 : Nat) => fun (gz'11 : Nat) => ai (r7 [r1,r1,r1,r1,r1,r1,r1]) (ai (rf (riC k ((r1, tk'4 + 1, tk'4 + 2, tk'4 + 4)))) (ai hk (fun (n3 : Nat) (n'12 : Nat) => fun (gz'12 : Nat) => ai (r7 [n3]) (ai (rf (ilC w.params ⟨n3, n, y.s, f, p, { cps := #[cb] }, i', pv', ee', [t0, t11, t21, t3, t4, t5, tk'3, t7, t8, t9, t10], Int.ofNat (k + 1), S "_ValueFormatter._append_chunk.<locals>.", some 130, Value.ref 129, some (n + 247), y.x.a, y.x.d, y.x.xs.push (Value.ref (t + 247)), ep'⟩)) (ai (rf (Int.ofNat (k + 1) : Int)) (ai (rf ({ cps := #[cb] } : Str)) (ai sp2 (ai (hv t) (ai (a1 t) (ai tw (ai ln (ai b2 (fun (tk'5 : Nat) (ee'1 : Nat) => fun (t01 t13 t22 t31 t41 t51 : Nat) (t61 t71 t81 t91 t101 : Nat) => fun (pv'1 : Str) (io'1 : Obj) => fun (n'13 : Nat) (gz'13 : Nat) => ai (r7 [n,y.x.2,y.x.1,y.x.1,y.x.1,y.x.1,ds,y.1,y.1,y.1,y.1,n]) (ai (rf (pfC w.params (({ a := y.x.a, d := y.x.d, xs := y.x.xs.push (Value.ref (t + 247)), ep := ep', kt := y.x.kt, iv := y.x.iv, it := y.x.it }, Int.ofNat j, t81)))) (ai (s1 t) (fun (tk'6 : Nat) (ep'1 : Nat) => fun (r2 epr : Nat) (n'14 : Nat) => fun (gz'14 : Nat) => ai (r7 [ds,y.1,y.1,y.1,y.1,n,y.2,y.2,y.2,y.2,ds,y.1,y.1,y.1,y.1,n,n,n]) (ai (rf (stC w.params ⟨y.x.a, y.x.d, cutIn (y.x.xs.push (Value.ref (t + 247))) (some (Int.ofNat j)) none #[], ep'1, y.x.kt, y.x.iv, y.x.it⟩)) (ai (a2 t) (ai (rf ([] : List (Nat × Code))) (fun (t14 : Nat) (tk'7 : Nat) => fun (n'15 : Nat) (gz'15 : Nat) => ai (r7 [y.2]) (ai (rf (y.l + 247)) (ai h2 (fun (ep'2 : Nat) (n'16 : Nat) => fun (gz'16 : Nat) => ai (r7 [n,y.x.2,y.x.1,y.x.1,y.x.1,y.x.1,ds,y.1,y.1,y.1,y.1,n]) (ai (rf (rsC w.params (({ a := y.x.a, d := y.x.d, xs := cutIn (y.x.xs.push (Value.ref (t + 247))) (some (Int.ofNat j)) none #[], ep := ep'1, kt := y.x.kt, iv := y.x.iv, it := y.x.it }, r2, slicePick (y.x.xs.push (Value.ref (t + 247))) (some (Int.ofNat j)) none none, epr)))) (ai (s2 t) (ai (s3 t) (fun (tk'8 : Nat) (ep'3 : Nat) => fun (t' : Nat) (n'17 : Nat) => fun (gz'17 : Nat) => ai (r7 []) (hq t tk'8 ep'2 ep'3 t' t14)))))))))))))))))))))))))))))))))))))))))))))))))))))))))))))))))))))))))
theorem chB5 {ps1 psT : List Part} {K mx k j : Nat} {ca cb : Nat} {rest : List Nat} (hs : (y.s + 247, vfO (ds + 247)) ∈ q) (hd : (ds + 247, vfD w.params τ (Int.ofNat mx) ⟨#[ca, cb, 32]⟩ (y.l + 247) (y.x.a + 247)) ∈ q) (h1 : y.x.xs.size ≤ 100000) (h2 : y.ls.size ≤ 1000000)
    (a1 : ∀ t, AcOk ps1 (y.x.xs.push (.ref (t + 247))) ((t + 247, tup2 (S " ") ft p pt) :: q)) (hK : y.x.iv + total ps1 = Int.ofNat K) (hKb : K ≤ 1000000)
    (sp1 : Spc ⟨#[ca]⟩ false) (b1 : Brk ps1 ca (k + 1) none) (sp2 : Spc ⟨#[cb]⟩ false) (b2 : Brk ps1 cb (k + 1) none) (ha : ∀ t : Nat, AtI (y.x.xs.push (.ref (t + 247))) (Int.ofNat (k + 1)) (.ref (t + 247))) (g1 : Int.ofNat (k + 1) < 1000000) (hgt : IntGt (Int.ofNat K) (Int.ofNat mx) true) (hsc : Ascii ⟨#[ca, cb, 32]⟩) (z1 : ∀ t : Nat, (y.x.xs.push (.ref (t + 247))).size = k + 2) (hk : k ≤ 1000) (tw : Two ps1) (ln : k + 1 < ps1.length)
    (s1 : ∀ t : Nat, (y.x.xs.push (.ref (t + 247))).size ≤ 100000) (s2 : ∀ t : Nat, (cutIn (y.x.xs.push (.ref (t + 247))) (some (Int.ofNat (k + 1))) none #[]).size ≤ 100000) (s3 : ∀ t : Nat, (slicePick (y.x.xs.push (.ref (t + 247))) (some (Int.ofNat (k + 1))) none none).size ≤ 100000)
    (a2 : ∀ t, AcOk psT (cutIn (y.x.xs.push (.ref (t + 247))) (some (Int.ofNat (k + 1))) none #[]) ((t + 247, tup2 (S " ") ft p pt) :: q)) (hv : ∀ t, VfS w.params (y.s + 247) (y.x.a + 247) ((t + 247, tup2 (S " ") ft p pt) :: q))
    (hq : ∀ t tk' epl' ep' t' tt : Nat, post (.ok (.ret .none)) tk' [lstO (y.ls.push (.str (textOf psT) tt)) epl', accO (y.x.d + 247) (cutIn (cutIn (y.x.xs.push (.ref (t + 247))) (some (Int.ofNat (k + 1))) none #[]) none none (slicePick (y.x.xs.push (.ref (t + 247))) (some (Int.ofNat (k + 1))) none none)) ep', accD w.params y.x.kt 0 t'] [] [(t + 247, tup2 (S " ") ft p pt)]) : Runs w V0 170 (chC w.params (y, S " ", ft, p, pt)).c (chC w.params (y, S " ", ft, p, pt)).L q [] tk n gz post := by
  have h0 : Int.ofNat (k + 2) - 1 = Int.ofNat (k + 1) := by show ((k + 2 : Nat) : Int) - 1 = ((k + 1 : Nat) : Int); omega
  have g0 : 0 ≤ Int.ofNat (k + 1) := Int.natCast_nonneg _
  have g2 := spcT
  have g3 := eqB
  exact .go1 (subC hs (subC hd sub0)) (cC (ctPush_ok w V0) <| cC (ctLenB_ok w ps1 K) <| cC (ctGt_ok w V0 true) <| cC (ctCountN_ok w V0 (k + 2)) <| cC (ctPopFrom_ok w V0) <| cC (ctReset1_ok w V0) <| cC (ctPopQ_ok w V0 y.x.xs 0) <| cC (ctNewl_ok w [] (S "")) <| cC (ctStrB_ok w psT) <| cC (ctApp_ok w V0) <| cC (ctSub_ok w V0 (Int.ofNat (k + 1))) <| cC (ctRNew_ok w V0 k) <| cC (ctRIter_ok w V0 k) <| cC (ctSpace_ok w V0 true) <| cC (ctGetQ_ok w V0 0) <| cC (ctEq_ok w V0 true) <| cC (ctIn0_ok w V0 ps1 ca none (k + 1)) <| cC (ctIn_ok w V0 ps1 cb none (k + 1)) <| c1 (ctSIter_ok w V0)) [0,5,5,5,5,5,5,0,1,5,1,0,0,0,0,0,1,0,0,0,0,1,0,1,0,0,1,1,3,0,0,0,3,0,0,0,3,0,0,0,0,3,4,5,5,0,2,0,2,1,2,0,0,5,1,0,0,0,0,0,1,0,0,0,0,1,0,1,0,0,1,1,0,2,1,2,1,2,5,1,0,0,0,0,0,1,0,0,0,0,1,0,1,0,0,1,1,0,2,2,0,5,1,0,0,0,0,0,1,0,0,0,0,1,0,1,0,0,1,1,0,2,18,0,6,0,6,0,6,0,6,6,6,6,5,5,0,0,5,1,0,0,0,0,0,1,0,0,0,0,1,0,1,0,0,1,1,3,0,0,0,3,0,0,0,3,0,0,0,0,3,4,0,2,3,2,1,2,0,2,10,0,0,0,0,0,0,2,11,0,7,7,0,7,0,7,7,7,0,7,2,12,1,5,8,2,16,3,3,6,1,0,6,0,6,0,6,6,6,6,5,5,0,0,5,1,0,0,0,0,0,1,0,0,0,0,1,0,1,0,0,1,1,3,0,0,0,3,0,0,0,3,0,0,0,0,3,4,0,2,3,2,1,2,0,2,10,0,0,0,0,0,0,2,11,0,9,9,0,9,0,9,9,9,0,9,2,12,1,7,10,2,17,3,3,8,1,0,6,0,6,0,6,6,6,6,5,5,0,0,5,1,0,0,0,0,0,1,0,0,0,0,1,0,1,0,0,1,1,3,0,0,0,3,0,0,0,3,0,0,0,0,3,4,0,2,3,2,1,2,0,2,10,0,0,0,0,0,0,2,11,0,11,11,0,11,0,11,11,11,0,11,2,12,1,9,12,0,12,0,12,0,12,12,12,12,12,12,12,5,5,5,0,2,13,0,5,1,0,0,0,0,0,1,0,0,0,0,1,0,1,0,0,1,1,5,3,0,0,0,3,0,3,0,0,0,0,3,0,2,14,1,1,0,1,100,1,100,1,100,0,1,100,0,1,100,0,5,5,5,0,0,0,5,0,0,5,0,2,15,0,5,1,0,0,0,0,0,1,0,0,0,0,1,0,1,0,0,1,1,3,0,0,0,3,0,0,0,3,0,0,0,0,3,4,5,0,2,4,2,1,2,5,5,5,1,0,0,0,0,0,1,0,0,0,0,1,0,1,0,0,1,1,2,2,2,2,0,0,5,1,0,0,0,0,0,1,0,0,0,0,1,0,1,0,0,1,1,0,0,0,2,8,2,1,2,0,0,0,2,2,9,1,0,5,1,0,0,0,0,0,1,0,0,0,0,1,0,1,0,0,1,1,3,0,0,0,3,0,0,0,3,0,0,0,0,3,4,5,0,2,5,3,1,2,11] [] [] 1 (by kernel_rfl) (by kernel_rfl) (ai (r7 [n,n,y.x.2,y.x.1,y.x.1,y.x.1,y.x.1,ds,y.1,y.1,y.1,y.1,n,n,n,n,n,n,n]) (ai (rf (puC w.params (({ a := y.x.a, d := y.x.d, xs := y.x.xs, ep := y.x.ep, kt := y.x.kt, iv := y.x.iv, it := y.x.it }, S " ", ft, p, pt)))) (ai h1 (fun (tk' : Nat) (ep' : Nat) => fun (t : Nat) (n' : Nat) => fun (gz' : Nat) => ai (r7 [ds,y.1,y.1,y.1,y.1,n]) (ai (rf (leC w.params ⟨y.x.a, y.x.d, y.x.xs.push (Value.ref (t + 247)), ep', y.x.kt, y.x.iv, y.x.it⟩)) (ai (a1 t) (ai (rf ([] : List (Nat × Code))) (ai hK (ai hKb (fun (t1 : Nat) (tk'1 : Nat) => fun (n'1 : Nat) (gz'1 : Nat) => ai (r7 [ds,y.1,y.1,y.1,y.1,n]) (ai hgt (fun (n'2 : Nat) (gz'2 : Nat) => ai (r7 [ds,y.1,y.1,y.1,y.1,n]) (ai (rf (siC (({ cps := #[ca, cb, 32] }, τ 7)))) (ai hsc (fun (n1 : Nat) (n'3 : Nat) => fun (gz'3 : Nat) => ai (r7 [y.x.2,y.x.1,y.x.1,y.x.1,y.x.1,ds,y.1,y.1,y.1,y.1,n,n,n,n1,n1,n1,n1,n1,n1,n1]) (ai (rf (acC w.params 214 ⟨y.x.a, y.x.d, y.x.xs.push (Value.ref (t + 247)), ep', y.x.kt, y.x.iv, y.x.it⟩ [] [])) (ai (z1 t) (fun (tk'2 : Nat) (t2 : Nat) => fun (n'4 : Nat) (gz'4 : Nat) => ai (r7 []) (ai h0 (fun (n'5 : Nat) (gz'5 : Nat) => ai (r7 []) (ai (rf (rnC k ((tk'2 + 1, tk'2 + 2, tk'2 + 4)))) (ai hk (fun (r : Nat) (n'6 : Nat) => fun (gz'6 : Nat) => ai (r7 [r,r,r,r,r,r,r]) (ai (rf (riC k ((r, tk'2 + 1, tk'2 + 2, tk'2 + 4)))) (ai hk (fun (n2 : Nat) (n'7 : Nat) => fun (gz'7 : Nat) => ai (r7 [n2]) (ai (rf (il0 w.params ⟨n2, n, y.s, S " ", p, { cps := #[ca] }, 0, S "", 4, [tk, tk + 1, ft, tk + 2, pt, tk'1 + 3, tk'1 + 2, 0, 0, 0, 0], Int.ofNat (k + 1), S "_ValueFormatter._append_chunk.<locals>.", some 130, Value.ref 129, some (n + 247), y.x.a, y.x.d, y.x.xs.push (Value.ref (t + 247)), ep'⟩)) (ai (by omega : 0 < k + 1) (ai (rf (Int.ofNat (k + 1) : Int)) (ai (rf ({ cps := #[ca] } : Str)) (ai sp1 (ai (hv t) (ai (a1 t) (ai tw (ai ln (ai b1 (fun (tk'3 : Nat) (ee' : Nat) => fun (t0 t11 t21 t3 t4 t5 : Nat) (t6 t7 t8 t9 t10 : Nat) => fun (i' : Int) (pv' : Str) => fun (io' : Obj) (n'8 : Nat) => fun (gz'8 : Nat) => ai (r7 [y.x.2,y.x.1,y.x.1,y.x.1,y.x.1,ds,y.1,y.1,y.1,y.1,n,n,n,n1,n1,n1,n1,n1,n1]) (ai (rf (acC w.params 214 ⟨y.x.a, y.x.d, y.x.xs.push (Value.ref (t + 247)), ep', y.x.kt, y.x.iv, y.x.it⟩ [] [])) (ai (z1 t) (fun (tk'4 : Nat) (t12 : Nat) => fun (n'9 : Nat) (gz'9 : Nat) => ai (r7 []) (ai h0 (fun (n'10 : Nat) (gz'10 : Nat) => ai (r7 []) (ai (rf (rnC k ((tk'4 + 1, tk'4 + 2, tk'4 + 4)))) (ai hk (fun (r1 : Nat) (n'11 : Nat) => fun (gz'11 : Nat) => ai (r7 [r1,r1,r1,r1,r1,r1,r1]) (ai (rf (riC k ((r1, tk'4 + 1, tk'4 + 2, tk'4 + 4)))) (ai hk (fun (n3 : Nat) (n'12 : Nat) => fun (gz'12 : Nat) => ai (r7 [n3]) (ai (rf (ilC w.params ⟨n3, n, y.s, S " ", p, { cps := #[cb] }, i', pv', ee', [t0, t11, t21, t3, t4, t5, tk'3, t7, t8, t9, t10], Int.ofNat (k + 1), S "_ValueFormatter._append_chunk.<locals>.", some 130, Value.ref 129, some (n + 247), y.x.a, y.x.d, y.x.xs.push (Value.ref (t + 247)), ep'⟩)) (ai (rf (Int.ofNat (k + 1) : Int)) (ai (rf ({ cps := #[cb] } : Str)) (ai sp2 (ai (hv t) (ai (a1 t) (ai tw (ai ln (ai b2 (fun (tk'5 : Nat) (ee'1 : Nat) => fun (t01 t13 t22 t31 t41 t51 : Nat) (t61 t71 t81 t91 t101 : Nat) => fun (i'1 : Int) (pv'1 : Str) => fun (io'1 : Obj) (n'13 : Nat) => fun (gz'13 : Nat) => ai (r7 [y.x.2,y.x.1,y.x.1,y.x.1,y.x.1,ds,y.1,y.1,y.1,y.1,n,n,n,n1,n1,n1,n1,n1,n1]) (ai (rf (acC w.params 214 ⟨y.x.a, y.x.d, y.x.xs.push (Value.ref (t + 247)), ep', y.x.kt, y.x.iv, y.x.it⟩ [] [])) (ai (z1 t) (fun (tk'6 : Nat) (t14 : Nat) => fun (n'14 : Nat) (gz'14 : Nat) => ai (r7 []) (ai h0 (fun (n'15 : Nat) (gz'15 : Nat) => ai (r7 []) (ai (rf (rnC k ((tk'6 + 1, tk'6 + 2, tk'6 + 4)))) (ai hk (fun (r2 : Nat) (n'16 : Nat) => fun (gz'16 : Nat) => ai (r7 [r2,r2,r2,r2,r2,r2,r2]) (ai (rf (riC k ((r2, tk'6 + 1, tk'6 + 2, tk'6 + 4)))) (ai hk (fun (n4 : Nat) (n'17 : Nat) => fun (gz'17 : Nat) => ai (r7 [n,n,n,n4,n4,n4,n4,n4,n4,n4,n4,n4,n4]) (ai g2 (fun (n'18 : Nat) (gz'18 : Nat) => ai (r7 [y.x.1,y.x.1,y.x.1,y.x.1,n,ds,y.1,y.1,y.1,y.1,n]) (ai (rf (y.x.a + 247)) (ai g0 (ai g1 (ai (ha t) (fun (n'19 : Nat) (gz'19 : Nat) => ai (r7 [n,n,n,n,n,t,t,t,t,t]) (ai g3 (fun (n'20 : Nat) (gz'20 : Nat) => ai (r7 [n,y.x.2,y.x.1,y.x.1,y.x.1,y.x.1,ds,y.1,y.1,y.1,y.1,n]) (ai (rf (pfC w.params (({ a := y.x.a, d := y.x.d, xs := y.x.xs.push (Value.ref (t + 247)), ep := ep', kt := y.x.kt, iv := y.x.iv, it := y.x.it }, Int.ofNat (k + 1), tk'6 + 5)))) (ai (s1 t) (fun (tk'7 : Nat) (ep'1 : Nat) => fun (r3 epr : Nat) (n'21 : Nat) => fun (gz'21 : Nat) => ai (r7 [ds,y.1,y.1,y.1,y.1,n,y.2,y.2,y.2,y.2,ds,y.1,y.1,y.1,y.1,n,n,n]) (ai (rf (stC w.params ⟨y.x.a, y.x.d, cutIn (y.x.xs.push (Value.ref (t + 247))) (some (Int.ofNat (k + 1))) none #[], ep'1, y.x.kt, y.x.iv, y.x.it⟩)) (ai (a2 t) (ai (rf ([] : List (Nat × Code))) (fun (t15 : Nat) (tk'8 : Nat) => fun (n'22 : Nat) (gz'22 : Nat) => ai (r7 [y.2]) (ai (rf (y.l + 247)) (ai h2 (fun (ep'2 : Nat) (n'23 : Nat) => fun (gz'23 : Nat) => ai (r7 [n,y.x.2,y.x.1,y.x.1,y.x.1,y.x.1,ds,y.1,y.1,y.1,y.1,n]) (ai (rf (rsC w.params (({ a := y.x.a, d := y.x.d, xs := cutIn (y.x.xs.push (Value.ref (t + 247))) (some (Int.ofNat (k + 1))) none #[], ep := ep'1, kt := y.x.kt, iv := y.x.iv, it := y.x.it }, r3, slicePick (y.x.xs.push (Value.ref (t + 247))) (some (Int.ofNat (k + 1))) none none, epr)))) (ai (s2 t) (ai (s3 t) (fun (tk'9 : Nat) (ep'3 : Nat) => fun (t' : Nat) (n'24 : Nat) => fun (gz'24 : Nat) => ai (r7 []) (hq t tk'9 ep'2 ep'3 t' t15)))))))))))))))))))))))))))))))))))))))))))))))))))))))))))))))))))))))))))))))))))))))))))))
end
end
end Mine

namespace Mine
open PySem PySem.W PySem.W.X
noncomputable section
section
variable (w : World) {y : Fm} {p : Str} {ft pt : Nat} {q : List (Nat × Obj)} {tk n gz : Nat} {post : Post} {ds : Nat} {τ : Nat → Nat}
theorem chC2 {ps1 : List Part} {K mx k ca cb : Nat} (hs : (y.s + 247, vfO (ds + 247)) ∈ q) (hd : (ds + 247, vfD w.params τ (Int.ofNat mx) ⟨#[ca, 32]⟩ (y.l + 247) (y.x.a + 247)) ∈ q) (h2 : y.ls.size ≤ 1000)
    (a1 : ∀ t, AcOk ps1 (#[].push (.ref (t + 247))) ((t + 247, tup2 (S "") ft p pt) :: q)) (hT : Int.ofNat (k + 1) + total ps1 = Int.ofNat K) (hKb : K ≤ 1000000) (hgt : IntGt (Int.ofNat K) (Int.ofNat mx) true) (hsc : Ascii ⟨#[ca, 32]⟩) (hxs : y.x.xs = #[]) (hiv : y.x.iv = Int.ofNat (k + 1))
    (hv : ∀ q', VfAny w.params (y.s + 247) (y.l + 247) (y.x.a + 247) (q' ++ q)) (he : ∀ q', AcOk [] #[] q') (hn : NewlOk [] (Int.ofNat (k + 1)) (S ""))
    (hq : ∀ t ft tk' epl' ep' t' tt : Nat, post (.ok (.ret .none)) tk' [lstO (y.ls.push (.str (S "") tt)) epl', accO (y.x.d + 247) (#[].push (.ref (t + 247))) ep', accD w.params y.x.kt 0 t'] [] [(t + 247, tup2 (S " ") ft p pt)]) :
    Runs w V0 170 (chC w.params (y, S "", ft, p, pt)).c (chC w.params (y, S "", ft, p, pt)).L q [] tk n gz post := by
  obtain ⟨s, l, ls, el, ⟨a, d, xs, ep, kt, iv, it⟩⟩ := y
  obtain rfl := hxs
  obtain rfl := hiv
  have z0 := Nat.zero_le 1000
  have z1 := Nat.zero_le 100000
  have z2 : ∀ v : Value, ((#[] : Array Value).push v).size = 1 := fun v => rfl
  have z3 : IntGt (Int.ofNat (k + 1)) 0 true := decide_eq_true (by show ((k + 1 : Nat) : Int) > 0; omega)
  have hv1 := fun a b => hv [a, b]
  have hv2 := fun a => hv [a]
  exact .go1 (subC hs (subC hd sub0)) (cC (ctPush_ok w V0) <| cC (ctLenB_ok w ps1 K) <| cC (ctGt_ok w V0 true) <| cC (ctCountN_ok w V0 1) <| cC (ctPopQ_ok w V0 #[] 0) <| cC (ctNewl_ok w [] (S "")) <| c1 (ctSIter_ok w V0)) [0,5,5,5,5,5,5,0,1,5,1,0,0,0,0,0,1,0,0,0,0,1,0,1,0,0,1,1,3,0,0,0,3,0,0,0,3,0,0,0,0,3,4,5,5,0,2,0,2,1,2,0,0,5,1,0,0,0,0,0,1,0,0,0,0,1,0,1,0,0,1,1,0,2,1,2,1,2,5,1,0,0,0,0,0,1,0,0,0,0,1,0,1,0,0,1,1,0,2,2,0,5,1,0,0,0,0,0,1,0,0,0,0,1,0,1,0,0,1,1,0,2,6,0,6,0,6,0,6,0,6,6,6,6,5,5,0,0,5,1,0,0,0,0,0,1,0,0,0,0,1,0,1,0,0,1,1,3,0,0,0,3,0,0,0,3,0,0,0,0,3,4,0,2,3,2,1,2,0,0,0,0,0,0,0,0,7,7,0,7,0,7,7,7,0,7,0,7,7,7,8,0,8,0,8,0,8,8,8,10,0,0,6,0,6,0,6,6,6,6,5,5,0,0,5,1,0,0,0,0,0,1,0,0,0,0,1,0,1,0,0,1,1,3,0,0,0,3,0,0,0,3,0,0,0,0,3,4,0,2,3,2,1,2,0,0,0,0,0,0,0,0,11,11,0,11,0,11,11,11,0,11,0,11,11,11,12,0,12,0,12,0,12,12,12,14,0,0,6,0,6,0,6,6,6,6,16,0,5,1,0,0,0,0,0,1,0,0,0,0,1,0,1,0,0,1,1,3,0,0,0,3,0,0,0,3,0,0,0,0,3,4,0,2,4,2,1,2,1,100,1,100,1,100,0,1,100,0,17,17,0,17,0,17,17,1,100,17,17,17,0,17,0,17,17,1,100,17,17,17,0,17,0,17,17,1,100,17,17,19,5,5,5,5,5,1,0,0,0,0,0,1,0,0,0,0,1,0,1,0,0,1,1,3,0,0,0,0,0,0,0,3,0,0,3,0,0,0,3,3,0,4,0,0,2,2,0,5,1,0,0,0,0,1,0,0,0,0,1,0,0,0,0,0,1,0,1,1,0,2,5,3,0,1,2,5,0,0,0,5,5,5,1,0,0,0,0,0,1,0,0,0,0,1,0,1,0,0,1,1,3,0,0,0,3,0,0,0,3,0,0,0,0,3,4,5,5,0,2,0,2,1,2] [] [] 1 (by kernel_rfl) (by kernel_rfl) (ai (r7 [n,n,d,a,a,a,a,ds,s,s,s,s,n,n,n,n,n,n,n]) (ai (rf (puC w.params (({ a := a, d := d, xs := #[], ep := ep, kt := kt, iv := Int.ofNat (k + 1), it := it }, S "", ft, p, pt)))) (ai z1 (fun (tk' ep' t n' gz' : Nat) => ai (r7 [ds,s,s,s,s,n]) (ai (rf (leC w.params ⟨a, d, #[Value.ref (t + 247)], ep', kt, Int.ofNat (k + 1), it⟩)) (ai (a1 t) (ai (rf ([] : List (Nat × Code))) (ai hT (ai hKb (fun (t1 tk'1 n'1 gz'1 : Nat) => ai (r7 [ds,s,s,s,s,n]) (ai hgt (fun (n'2 gz'2 : Nat) => ai (r7 [ds,s,s,s,s,n]) (ai (rf (siC (({ cps := #[ca, 32] }, τ 7)))) (ai hsc (fun (n1 n'3 gz'3 : Nat) => ai (r7 [d,a,a,a,a,ds,s,s,s,s,n,n,n,n1,n1,n1,n1,n1,n1,n1]) (ai (rf (acC w.params 214 ⟨a, d, #[Value.ref (t + 247)], ep', kt, Int.ofNat (k + 1), it⟩ [] [])) (ai (rf 1) (fun (tk'2 t2 n'4 gz'4 : Nat) => ai (r7 [d,a,a,a,a,ds,s,s,s,s,n,n,n,n1,n1,n1,n1,n1,n1,n'4 + 3,n'4 + 1,n'4 + 1,n'4 + 1,n'4 + 1,n'4 + 1,n'4 + 1,n'4,n'4,n'4,n'4,n'4,n'4,n'4,n'4,n'4,n'4]) (ai (rf (acC w.params 214 ⟨a, d, #[Value.ref (t + 247)], ep', kt, Int.ofNat (k + 1), it⟩ [] [])) (ai (rf 1) (fun (tk'3 t3 n'5 gz'5 : Nat) => ai (r7 [d,a,a,a,a,ds,s,s,s,s,n,n'5 + 5,n1,n1,n1,n1,n1,n1,n'5 + 3,n'5 + 1,n'5 + 1,n'5 + 1,n'5 + 1,n'5 + 1,n'5 + 1,n'5,n'5,n'5,n'5,n'5,n'5,n'5,n'5,n'5,n'5]) (ai (by omega : 247 ≤ t + 247) (ai (rf (acC w.params 177 ⟨a, d, #[Value.ref (t + 247)], ep', kt, Int.ofNat (k + 1), it⟩ [] [])) (ai (rf (#[Value.ref (t + 247)] : Array Value)) (ai z0 (fun (tk'4 ep'1 n'6 gz'6 : Nat) => ai (r7 [d,a,a,a,a,a,ds,s,s,s,s,n,n,n,n,n,n'6 + 2,n'6,n'6,t,n'6,n'6,n'6,n'6,n'6,n'6,t,n'6,n'6,n'6,n'6,n'6,n'6,t,n'6,n'6,n'6,n'6,n'6,t,t,t,t]) (ai z3 (fun (n'7 gz'7 : Nat) => ai (r7 [ds,s,s,s,s,n]) (ai (rf (fmC w.params 95 (⟨s, l, ls, el, ⟨a, d, #[], ep'1, kt, Int.ofNat (k + 1), it⟩⟩) [])) (ai (hv2 ((t + 247, { cls := Value.type "tuple", data := Data.seq #[Value.str (S "") ft, Value.str p pt] }))) (ai h2 (ai (he ([(t + 247, { cls := Value.type "tuple", data := Data.seq #[Value.str (S "") ft, Value.str p pt] })] ++ q)) (ai hn (ai (rf ([] : List (Nat × Code))) (fun (tk'5 epl' ep'2 t' tt n'8 gz'8 : Nat) => ai (r7 [n,n,d,a,a,a,a,ds,s,s,s,s,n,n,n,n]) (ai (rf (puC w.params (({ a := a, d := d, xs := #[], ep := ep'2, kt := kt, iv := 0, it := t' }, S " ", tk'5 + 2, p, pt)))) (ai z1 (fun (tk'6 ep'3 t4 n'9 gz'9 : Nat) => ai (r7 []) (hq t4 (tk'5 + 2) tk'6 epl' ep'3 t' tt)))))))))))))))))))))))))))))))))))))))
theorem chC3 {ps1 : List Part} {K mx k ca cb : Nat} (hs : (y.s + 247, vfO (ds + 247)) ∈ q) (hd : (ds + 247, vfD w.params τ (Int.ofNat mx) ⟨#[ca, cb, 32]⟩ (y.l + 247) (y.x.a + 247)) ∈ q) (h2 : y.ls.size ≤ 1000)
    (a1 : ∀ t, AcOk ps1 (#[].push (.ref (t + 247))) ((t + 247, tup2 (S "") ft p pt) :: q)) (hT : Int.ofNat (k + 1) + total ps1 = Int.ofNat K) (hKb : K ≤ 1000000) (hgt : IntGt (Int.ofNat K) (Int.ofNat mx) true) (hsc : Ascii ⟨#[ca, cb, 32]⟩) (hxs : y.x.xs = #[]) (hiv : y.x.iv = Int.ofNat (k + 1))
    (hv : ∀ q', VfAny w.params (y.s + 247) (y.l + 247) (y.x.a + 247) (q' ++ q)) (he : ∀ q', AcOk [] #[] q') (hn : NewlOk [] (Int.ofNat (k + 1)) (S ""))
    (hq : ∀ t ft tk' epl' ep' t' tt : Nat, post (.ok (.ret .none)) tk' [lstO (y.ls.push (.str (S "") tt)) epl', accO (y.x.d + 247) (#[].push (.ref (t + 247))) ep', accD w.params y.x.kt 0 t'] [] [(t + 247, tup2 (S " ") ft p pt)]) :
    Runs w V0 170 (chC w.params (y, S "", ft, p, pt)).c (chC w.params (y, S "", ft, p, pt)).L q [] tk n gz post := by
  obtain ⟨s, l, ls, el, ⟨a, d, xs, ep, kt, iv, it⟩⟩ := y
  obtain rfl := hxs
  obtain rfl := hiv
  have z0 := Nat.zero_le 1000
  have z1 := Nat.zero_le 100000
  have z2 : ∀ v : Value, ((#[] : Array Value).push v).size = 1 := fun v => rfl
  have z3 : IntGt (Int.ofNat (k + 1)) 0 true := decide_eq_true (by show ((k + 1 : Nat) : Int) > 0; omega)
  have hv1 := fun a b => hv [a, b]
  have hv2 := fun a => hv [a]
  exact .go1 (subC hs (subC hd sub0)) (cC (ctPush_ok w V0) <| cC (ctLenB_ok w ps1 K) <| cC (ctGt_ok w V0 true) <| cC (ctCountN_ok w V0 1) <| cC (ctPopQ_ok w V0 #[] 0) <| cC (ctNewl_ok w [] (S "")) <| c1 (ctSIter_ok w V0)) [0,5,5,5,5,5,5,0,1,5,1,0,0,0,0,0,1,0,0,0,0,1,0,1,0,0,1,1,3,0,0,0,3,0,0,0,3,0,0,0,0,3,4,5,5,0,2,0,2,1,2,0,0,5,1,0,0,0,0,0,1,0,0,0,0,1,0,1,0,0,1,1,0,2,1,2,1,2,5,1,0,0,0,0,0,1,0,0,0,0,1,0,1,0,0,1,1,0,2,2,0,5,1,0,0,0,0,0,1,0,0,0,0,1,0,1,0,0,1,1,0,2,6,0,6,0,6,0,6,0,6,6,6,6,5,5,0,0,5,1,0,0,0,0,0,1,0,0,0,0,1,0,1,0,0,1,1,3,0,0,0,3,0,0,0,3,0,0,0,0,3,4,0,2,3,2,1,2,0,0,0,0,0,0,0,0,7,7,0,7,0,7,7,7,0,7,0,7,7,7,8,0,8,0,8,0,8,8,8,10,0,0,6,0,6,0,6,6,6,6,5,5,0,0,5,1,0,0,0,0,0,1,0,0,0,0,1,0,1,0,0,1,1,3,0,0,0,3,0,0,0,3,0,0,0,0,3,4,0,2,3,2,1,2,0,0,0,0,0,0,0,0,11,11,0,11,0,11,11,11,0,11,0,11,11,11,12,0,12,0,12,0,12,12,12,14,0,0,6,0,6,0,6,6,6,6,5,5,0,0,5,1,0,0,0,0,0,1,0,0,0,0,1,0,1,0,0,1,1,3,0,0,0,3,0,0,0,3,0,0,0,0,3,4,0,2,3,2,1,2,0,0,0,0,0,0,0,0,15,15,0,15,0,15,15,15,0,15,0,15,15,15,16,0,16,0,16,0,16,16,16,18,0,0,6,0,6,0,6,6,6,6,20,0,5,1,0,0,0,0,0,1,0,0,0,0,1,0,1,0,0,1,1,3,0,0,0,3,0,0,0,3,0,0,0,0,3,4,0,2,4,2,1,2,1,100,1,100,1,100,0,1,100,0,21,21,0,21,0,21,21,1,100,21,21,21,0,21,0,21,21,1,100,21,21,21,0,21,0,21,21,1,100,21,21,23,5,5,5,5,5,1,0,0,0,0,0,1,0,0,0,0,1,0,1,0,0,1,1,3,0,0,0,0,0,0,0,3,0,0,3,0,0,0,3,3,0,4,0,0,2,2,0,5,1,0,0,0,0,1,0,0,0,0,1,0,0,0,0,0,1,0,1,1,0,2,5,3,0,1,2,5,0,0,0,5,5,5,1,0,0,0,0,0,1,0,0,0,0,1,0,1,0,0,1,1,3,0,0,0,3,0,0,0,3,0,0,0,0,3,4,5,5,0,2,0,2,1,2] [] [] 1 (by kernel_rfl) (by kernel_rfl) (ai (r7 [n,n,d,a,a,a,a,ds,s,s,s,s,n,n,n,n,n,n,n]) (ai (rf (puC w.params (({ a := a, d := d, xs := #[], ep := ep, kt := kt, iv := Int.ofNat (k + 1), it := it }, S "", ft, p, pt)))) (ai z1 (fun (tk' ep' t n' gz' : Nat) => ai (r7 [ds,s,s,s,s,n]) (ai (rf (leC w.params ⟨a, d, #[Value.ref (t + 247)], ep', kt, Int.ofNat (k + 1), it⟩)) (ai (a1 t) (ai (rf ([] : List (Nat × Code))) (ai hT (ai hKb (fun (t1 tk'1 n'1 gz'1 : Nat) => ai (r7 [ds,s,s,s,s,n]) (ai hgt (fun (n'2 gz'2 : Nat) => ai (r7 [ds,s,s,s,s,n]) (ai (rf (siC (({ cps := #[ca, cb, 32] }, τ 7)))) (ai hsc (fun (n1 n'3 gz'3 : Nat) => ai (r7 [d,a,a,a,a,ds,s,s,s,s,n,n,n,n1,n1,n1,n1,n1,n1,n1]) (ai (rf (acC w.params 214 ⟨a, d, #[Value.ref (t + 247)], ep', kt, Int.ofNat (k + 1), it⟩ [] [])) (ai (rf 1) (fun (tk'2 t2 n'4 gz'4 : Nat) => ai (r7 [d,a,a,a,a,ds,s,s,s,s,n,n,n,n1,n1,n1,n1,n1,n1,n'4 + 3,n'4 + 1,n'4 + 1,n'4 + 1,n'4 + 1,n'4 + 1,n'4 + 1,n'4,n'4,n'4,n'4,n'4,n'4,n'4,n'4,n'4,n'4]) (ai (rf (acC w.params 214 ⟨a, d, #[Value.ref (t + 247)], ep', kt, Int.ofNat (k + 1), it⟩ [] [])) (ai (rf 1) (fun (tk'3 t3 n'5 gz'5 : Nat) => ai (r7 [d,a,a,a,a,ds,s,s,s,s,n,n,n,n1,n1,n1,n1,n1,n1,n'5 + 3,n'5 + 1,n'5 + 1,n'5 + 1,n'5 + 1,n'5 + 1,n'5 + 1,n'5,n'5,n'5,n'5,n'5,n'5,n'5,n'5,n'5,n'5]) (ai (rf (acC w.params 214 ⟨a, d, #[Value.ref (t + 247)], ep', kt, Int.ofNat (k + 1), it⟩ [] [])) (ai (rf 1) (fun (tk'4 t4 n'6 gz'6 : Nat) => ai (r7 [d,a,a,a,a,ds,s,s,s,s,n,n'6 + 5,n1,n1,n1,n1,n1,n1,n'6 + 3,n'6 + 1,n'6 + 1,n'6 + 1,n'6 + 1,n'6 + 1,n'6 + 1,n'6,n'6,n'6,n'6,n'6,n'6,n'6,n'6,n'6,n'6]) (ai (by omega : 247 ≤ t + 247) (ai (rf (acC w.params 177 ⟨a, d, #[Value.ref (t + 247)], ep', kt, Int.ofNat (k + 1), it⟩ [] [])) (ai (rf (#[Value.ref (t + 247)] : Array Value)) (ai z0 (fun (tk'5 ep'1 n'7 gz'7 : Nat) => ai (r7 [d,a,a,a,a,a,ds,s,s,s,s,n,n,n,n,n,n'7 + 2,n'7,n'7,t,n'7,n'7,n'7,n'7,n'7,n'7,t,n'7,n'7,n'7,n'7,n'7,n'7,t,n'7,n'7,n'7,n'7,n'7,t,t,t,t]) (ai z3 (fun (n'8 gz'8 : Nat) => ai (r7 [ds,s,s,s,s,n]) (ai (rf (fmC w.params 95 (⟨s, l, ls, el, ⟨a, d, #[], ep'1, kt, Int.ofNat (k + 1), it⟩⟩) [])) (ai (hv2 ((t + 247, { cls := Value.type "tuple", data := Data.seq #[Value.str (S "") ft, Value.str p pt] }))) (ai h2 (ai (he ([(t + 247, { cls := Value.type "tuple", data := Data.seq #[Value.str (S "") ft, Value.str p pt] })] ++ q)) (ai hn (ai (rf ([] : List (Nat × Code))) (fun (tk'6 epl' ep'2 t' tt n'9 gz'9 : Nat) => ai (r7 [n,n,d,a,a,a,a,ds,s,s,s,s,n,n,n,n]) (ai (rf (puC w.params (({ a := a, d := d, xs := #[], ep := ep'2, kt := kt, iv := 0, it := t' }, S " ", tk'6 + 2, p, pt)))) (ai z1 (fun (tk'7 ep'3 t5 n'10 gz'10 : Nat) => ai (r7 []) (hq t5 (tk'6 + 2) tk'7 epl' ep'3 t' tt))))))))))))))))))))))))))))))))))))))))))
end
end
end Mine

namespace Mine
open PySem PySem.W PySem.W.X
noncomputable section
noncomputable def toP (l : List Pt) : List Part := l.map fun x => ⟨0, x.1, 0, x.2, 0⟩
theorem toP_of (l : List Pt) : PartsOf (toP l) l := by unfold PartsOf toP; rw [List.map_map]; exact List.map_id l
theorem toP_snoc (l : List Pt) (x : Pt) : toP (l ++ [x]) = toP l ++ [⟨0, x.1, 0, x.2, 0⟩] := by unfold toP; rw [List.map_append]; rfl
theorem toP_len (l : List Pt) : (toP l).length = l.length := List.length_map ..
theorem toP_take (l : List Pt) (j : Nat) : (toP l).take j = toP (l.take j) := (List.map_take ..).symm
theorem toP_drop (l : List Pt) (j : Nat) : (toP l).drop j = toP (l.drop j) := (List.map_drop ..).symm
theorem AcOk.size {ps : List Part} {xs : Array Value} {q : List (Nat × Obj)} (h : AcOk ps xs q) : xs.size = ps.length := by
  obtain ⟨_, ps', rfl, _, hl⟩ := h
  have := congrArg List.length hl
  rw [itemsOf_size]
  rwa [List.length_map, List.length_map] at this
theorem AcOk.cut {ps : List Part} {xs : Array Value} {q : List (Nat × Obj)} (h : AcOk ps xs q) {j : Nat} (hj : j ≤ ps.length) :
    (AcOk (ps.take j) (cutIn xs (some (Int.ofNat j)) none #[]) q ∧ (cutIn xs (some (Int.ofNat j)) none #[]).size ≤ 100000) ∧ AcOk (ps.drop j) (slicePick xs (some (Int.ofNat j)) none none) q ∧ (slicePick xs (some (Int.ofNat j)) none none).size ≤ 100000 := by
  have hz := h.size
  obtain ⟨hs, ps', rfl, hk, hl⟩ := h
  rw [itemsOf_size] at hz
  have h1 := hs.1
  rw [cutIn_items ps' (by omega), slice_items]
  refine ⟨⟨⟨⟨by rw [List.length_take]; omega, fun x hx => hs.2 x (List.mem_of_mem_take hx)⟩, _, rfl, fun x hx => hk x (List.mem_of_mem_take hx), ?_⟩, by rw [itemsOf_size, List.length_take]; omega⟩, ⟨⟨by rw [List.length_drop]; omega, fun x hx => hs.2 x (List.mem_of_mem_drop hx)⟩, _, rfl, fun x hx => hk x (List.mem_of_mem_drop hx), ?_⟩, by rw [itemsOf_size, List.length_drop]; omega⟩
  · unfold Like at *; rw [List.map_take, List.map_take, hl]
  · unfold Like at *; rw [List.map_drop, List.map_drop, hl]
noncomputable def ChF (v : VS) (f p : Str) : Prop := (∃ a b, p = ⟨#[a, b]⟩) ∧ (v.ps = [] → f = S "" ∧ 0 < v.iv) ∧ (v.ps ≠ [] → f = S " ")
noncomputable def ChOut (mx : Nat) (M : List Nat) (v : VS) (f p : Str) (ls : Array Value) (xs : Array Value) (iv : Int) (q : List (Nat × Obj)) : Prop :=
  TextsOf ls (chunkStep mx M v f p).lines ∧ AcOk (toP (chunkStep mx M v f p).ps) xs q ∧ iv = Int.ofNat (chunkStep mx M v f p).iv
noncomputable def ctChunk (P : Params) (mx : Nat) (M : List Nat) (v : VS) : Ct := mkC 200 (fun c L _ => (fmS c L, vS (arg c 1), vT (arg c 1), vS (arg c 2), vT (arg c 2))) (chC P) fun x q gs tk post =>
  VfIn P (x.1.s + 247) (x.1.l + 247) (x.1.x.a + 247) (Int.ofNat mx) (scOf M) q ∧ VOk v ∧ TextsOf x.1.ls v.lines ∧ AcOk (toP v.ps) x.1.x.xs q ∧ x.1.x.iv = Int.ofNat v.iv ∧ ChF v x.2.1 x.2.2.2.1 ∧ gs = [] ∧
    ∀ (tk' epl' ep' t' tn ft' : Nat) (f' : Str) (ls' xs' : Array Value) (iv' : Int), ChOut mx M v x.2.1 x.2.2.2.1 ls' xs' iv' ((tn + 247, tup2 f' ft' x.2.2.2.1 x.2.2.2.2) :: q) →
      post (.ok (.ret .none)) tk' [lstO ls' epl', accO (x.1.x.d + 247) xs' ep', accD P x.1.x.kt iv' t'] [] [(tn + 247, tup2 f' ft' x.2.2.2.1 x.2.2.2.2)]
theorem ctChunk_ok (w : World) {mx : Nat} {M : List Nat} (hM : MOk M) (v : VS) : CtOk w V0 (ctChunk w.params mx M v) := mkC_ok 170 rfl fun x q gs tk post h n gz => by
  obtain ⟨y, f, ft, p, pt⟩ := x
  obtain ⟨⟨ds, τ, hs, hd⟩, vo, htx, hac, hiv, ⟨⟨pa, pb, hpp⟩, hE, hN⟩, rfl, hq⟩ := h
  dsimp only at hs hd htx hac hiv hpp hE hN hq
  replace hq : ∀ (tk' epl' ep' t' tn ft' : Nat) (f' : Str) (ls' xs' : Array Value), TextsOf ls' (chunkStep mx M v f p).lines → AcOk (toP (chunkStep mx M v f p).ps) xs' ((tn + 247, tup2 f' ft' p pt) :: q) →
      post (.ok (.ret .none)) tk' [lstO ls' epl', accO (y.x.d + 247) xs' ep', accD w.params y.x.kt (Int.ofNat (chunkStep mx M v f p).iv) t'] [] [(tn + 247, tup2 f' ft' p pt)] := fun tk' epl' ep' t' tn ft' f' ls' xs' h1 h2 => hq tk' epl' ep' t' tn ft' f' ls' xs' _ ⟨h1, h2, rfl⟩
  have hf1 : f.length ≤ 1 := by
    by_cases h : v.ps = []
    · rw [(hE h).1]; decide
    · rw [hN h]; decide
  have hp2 : p.length = 2 := by rw [hpp]; rfl
  have hln : y.ls.size ≤ 1000 := by rw [htx.size]; have := vo.lines; omega
  have hsz := hac.size
  rw [toP_len] at hsz
  have hl40 := vo.len
  have hs1 : y.x.xs.size ≤ 100000 := by omega
  have hpt : ∀ x ∈ v.ps ++ [(f, p)], PtOk x := fun x hx => by
    rcases List.mem_append.mp hx with hx | hx
    · exact vo.ps x hx
    · rw [List.mem_singleton.mp hx]; exact ⟨hf1, pa, pb, hpp⟩
  have hsm : Small (toP (v.ps ++ [(f, p)])) := ⟨by rw [toP_len, List.length_append]; show v.ps.length + 1 ≤ 100; omega, fun x hx => by
    obtain ⟨z, hz, rfl⟩ := List.mem_map.mp hx
    obtain ⟨h1, a', b', h2⟩ := hpt z hz
    exact ⟨Nat.le_trans h1 (by decide), by show z.2.length ≤ 1000; rw [h2]; show 2 ≤ 1000; decide⟩⟩
  have htw : Two (toP (v.ps ++ [(f, p)])) := fun x hx => by
    obtain ⟨z, hz, rfl⟩ := List.mem_map.mp hx
    exact (hpt z hz).2
  have hac' := hac
  obtain ⟨_, qs, hqs, hkn, hlk⟩ := hac'
  have a1 : ∀ t, AcOk (toP (v.ps ++ [(f, p)])) (y.x.xs.push (.ref (t + 247))) ((t + 247, tup2 f ft p pt) :: q) := fun t => by
    rw [hqs, toP_snoc]
    rw [toP_snoc] at hsm
    exact AcOk.push (x := ⟨0, f, 0, p, 0⟩) hsm hkn hlk
  have hK : y.x.iv + total (toP (v.ps ++ [(f, p)])) = Int.ofNat (v.iv + ptot (v.ps ++ [(f, p)])) := by rw [(toP_of _).total, hiv]; rfl
  have hKb : v.iv + ptot (v.ps ++ [(f, p)]) ≤ 1000000 := by
    have h1 := ptot_le vo.ps
    have h3 := vo.iv
    rw [ptot_snoc]
    show v.iv + (ptot v.ps + (f.length + p.length)) ≤ _
    omega
  have m2 := m6 hln rfl
  by_cases hfit : v.iv + ptot (v.ps ++ [(f, p)]) ≤ mx
  · have e : chunkStep mx M v f p = ⟨v.lines, v.ps ++ [(f, p)], v.iv⟩ := by unfold chunkStep; rw [if_pos hfit]
    rw [e] at hq
    refine chA w (k := 0) (j := 0) (ca := 0) (cb := 0) (rest := []) (psT := []) hs hd hs1 m2 a1 hK hKb (decide_eq_false (by show ¬ (((v.iv + ptot (v.ps ++ [(f, p)]) : Nat) : Int) > (mx : Int)); omega)) fun t tk' ep' => ?_
    rw [hiv]
    exact hq _ _ _ _ t ft f _ _ htx (a1 t)
  · have hgt : IntGt (Int.ofNat (v.iv + ptot (v.ps ++ [(f, p)]))) (Int.ofNat mx) true := decide_eq_true (by show ((v.iv + ptot (v.ps ++ [(f, p)]) : Nat) : Int) > (mx : Int); omega)
    have hvq : ∀ q', VfAny w.params (y.s + 247) (y.l + 247) (y.x.a + 247) (q' ++ q) := fun q' => ⟨_, _, ds, τ, List.mem_append_right _ hs, List.mem_append_right _ hd⟩
    cases hvp : v.ps with
    | nil =>
      have e : chunkStep mx M v f p = ⟨v.lines ++ [S ""], [(S " ", p)], 0⟩ := by unfold chunkStep; rw [if_neg hfit, hvp]
      rw [e] at hq
      obtain ⟨rfl, hiv0⟩ := hE hvp
      obtain ⟨k, hk⟩ := Nat.exists_eq_add_of_le' hiv0
      rw [hvp, List.nil_append] at a1 hK hKb hgt
      have hx0 : y.x.xs = #[] := Array.eq_empty_of_size_eq_zero (by rw [hsz, hvp]; rfl)
      rw [hk] at hiv
      have hq2 : ∀ t ft tk' epl' ep' t' tt : Nat, post (.ok (.ret .none)) tk' [lstO (y.ls.push (.str (S "") tt)) epl', accO (y.x.d + 247) (#[].push (.ref (t + 247))) ep', accD w.params y.x.kt 0 t'] [] [(t + 247, tup2 (S " ") ft p pt)] := fun t ft tk' epl' ep' t' tt =>
        hq tk' epl' ep' t' t ft (S " ") _ _ (htx.push (S "") tt) (AcOk.push (ps := []) (qs := []) (x := ⟨0, S " ", 0, p, 0⟩) ⟨by show 1 ≤ 100; decide, fun x hx => by rw [List.mem_singleton.mp hx]; exact ⟨by show (S " ").length ≤ 1000; decide, by show p.length ≤ 1000; omega⟩⟩ (fun _ h => nomatch h) rfl)
      have he : ∀ q', AcOk [] #[] q' := fun q' => ⟨⟨Nat.zero_le _, fun _ h => nomatch h⟩, [], rfl, (fun _ h => nomatch h), rfl⟩
      have hn : NewlOk [] (Int.ofNat (k + 1)) (S "") := .head k rfl rfl (by have := vo.iv; omega)
      rw [hx0] at a1
      rw [hiv] at hK
      obtain ⟨⟨c1, rfl | ⟨c2, rfl⟩⟩, hc⟩ := hM
      · refine chC2 w (ca := c1) (cb := 0) hs hd hln a1 hK hKb hgt ?_ hx0 hiv hvq he hn hq2
        have h1 := (hc c1 (by simp)).1
        show (#[c1, 32].all (· < 128)) = true
        simp [h1]
      · refine chC3 w (ca := c1) (cb := c2) hs hd hln a1 hK hKb hgt ?_ hx0 hiv hvq he hn hq2
        have h1 := (hc c1 (by simp)).1
        have h2 := (hc c2 (by simp)).1
        show (#[c1, c2, 32].all (· < 128)) = true
        simp [h1, h2]
    | cons x0 l0 =>
      have hne : v.ps ≠ [] := by rw [hvp]; simp
      have hfe := hN hne
      have hvl : v.ps.length = l0.length + 1 := by rw [hvp]; rfl
      have e : chunkStep mx M v f p = ⟨v.lines ++ [ptext ((v.ps ++ [(f, p)]).take (cutAt M (v.ps ++ [(f, p)]) v.ps.length))], (v.ps ++ [(f, p)]).drop (cutAt M (v.ps ++ [(f, p)]) v.ps.length), 0⟩ := by
        unfold chunkStep; rw [if_neg hfit, hvp]
      rw [e, hvl] at hq
      have hbr : ∀ c r, Brk (toP (v.ps ++ [(f, p)])) c (l0.length + 1) r = (findBrk (ptst (v.ps ++ [(f, p)]) c) (l0.length + 1) = r) := fun c r => by
        unfold Brk
        rw [show tstP (toP (v.ps ++ [(f, p)])) c = ptst (v.ps ++ [(f, p)]) c from funext fun j => (toP_of _).tst c j]
      have hlen : (toP (v.ps ++ [(f, p)])).length = l0.length + 2 := by rw [toP_len, List.length_append, hvl]; rfl
      have z1 : ∀ t : Nat, (y.x.xs.push (.ref (t + 247))).size = l0.length + 2 := fun t => by rw [Array.size_push, hsz, hvl]
      have s1 : ∀ t : Nat, (y.x.xs.push (.ref (t + 247))).size ≤ 100000 := fun t => by rw [z1]; omega
      have hv : ∀ t, VfS w.params (y.s + 247) (y.x.a + 247) ((t + 247, tup2 f ft p pt) :: q) := fun t => ⟨y.l, hvq [(t + 247, tup2 f ft p pt)]⟩
      have fin : ∀ j, j ≤ l0.length + 2 → cutAt M (v.ps ++ [(f, p)]) (l0.length + 1) = j → (∀ t : Nat, (cutIn (y.x.xs.push (.ref (t + 247))) (some (Int.ofNat j)) none #[]).size ≤ 100000) ∧ (∀ t : Nat, (slicePick (y.x.xs.push (.ref (t + 247))) (some (Int.ofNat j)) none none).size ≤ 100000) ∧
          (∀ t, AcOk (toP ((v.ps ++ [(f, p)]).take j)) (cutIn (y.x.xs.push (.ref (t + 247))) (some (Int.ofNat j)) none #[]) ((t + 247, tup2 f ft p pt) :: q)) ∧
          ∀ t tk' epl' ep' t' tt : Nat, post (.ok (.ret .none)) tk' [lstO (y.ls.push (.str (textOf (toP ((v.ps ++ [(f, p)]).take j))) tt)) epl', accO (y.x.d + 247) (cutIn (cutIn (y.x.xs.push (.ref (t + 247))) (some (Int.ofNat j)) none #[]) none none (slicePick (y.x.xs.push (.ref (t + 247))) (some (Int.ofNat j)) none none)) ep', accD w.params y.x.kt 0 t'] [] [(t + 247, tup2 f ft p pt)] := fun j hj hc => by
        have z := fun t => (a1 t).cut (j := j) (by rw [hlen]; exact hj)
        refine ⟨fun t => (z t).1.2, fun t => (z t).2.2, fun t => toP_take _ _ ▸ (z t).1.1, fun t tk' epl' ep' t' tt => ?_⟩
        rw [hc] at hq
        rw [cut_all]
        refine hq tk' epl' ep' t' t ft f _ _ ?_ (toP_drop _ _ ▸ (z t).2.1)
        rw [(toP_of _).text]
        exact htx.push _ _
      have hk60 : l0.length ≤ 1000 := by omega
      have ln : l0.length + 1 < (toP (v.ps ++ [(f, p)])).length := by rw [hlen]; omega
      have ha : ∀ t : Nat, AtI (y.x.xs.push (.ref (t + 247))) (Int.ofNat (l0.length + 1)) (.ref (t + 247)) := fun t => by
        show (y.x.xs.push (.ref (t + 247)))[l0.length + 1]? = _
        rw [← hvl, ← hsz]
        exact Array.getElem?_push_size
      have hg1 : Int.ofNat (l0.length + 1) < 1000000 := by show ((l0.length + 1 : Nat) : Int) < 1000000; omega
      obtain ⟨⟨c1, rfl | ⟨c2, rfl⟩⟩, hc⟩ := hM
      · have h1 := hc c1 (by simp)
        have hasc : Ascii (⟨#[c1, 32]⟩ : Str) := by show (#[c1, 32].all (· < 128)) = true; simp [h1.1]
        cases hf1 : findBrk (ptst (v.ps ++ [(f, p)]) c1) (l0.length + 1) with
        | some j =>
          obtain ⟨s2, s3, a2, hq2⟩ := fin j (by have := findBrk_le hf1; omega) (by unfold cutAt; rw [hf1])
          exact chB1 w (ca := c1) (cb := 0) (rest := [32]) hs hd hs1 m2 a1 hK hKb h1.2 (by rw [hbr]; exact hf1) hgt hasc z1 hk60 htw ln s1 s2 s3 a2 hv hq2
        | none =>
          obtain ⟨s2, s3, a2, hq2⟩ := fin (l0.length + 1) (by omega) (by unfold cutAt; rw [hf1]; rfl)
          subst hfe
          exact chB2 w (ca := c1) (cb := 0) (rest := []) (j := 0) hs hd hs1 m2 a1 hK hKb h1.2 (by rw [hbr]; exact hf1) ha hg1 hgt hasc z1 hk60 htw ln s1 s2 s3 a2 hv hq2
      · have h1 := hc c1 (by simp)
        have h2 := hc c2 (by simp)
        have hasc : Ascii (⟨#[c1, c2, 32]⟩ : Str) := by show (#[c1, c2, 32].all (· < 128)) = true; simp [h1.1, h2.1]
        cases hf1 : findBrk (ptst (v.ps ++ [(f, p)]) c1) (l0.length + 1) with
        | some j =>
          obtain ⟨s2, s3, a2, hq2⟩ := fin j (by have := findBrk_le hf1; omega) (by unfold cutAt; rw [hf1])
          exact chB1 w (ca := c1) (cb := 0) (rest := [c2, 32]) hs hd hs1 m2 a1 hK hKb h1.2 (by rw [hbr]; exact hf1) hgt hasc z1 hk60 htw ln s1 s2 s3 a2 hv hq2
        | none =>
          cases hf2 : findBrk (ptst (v.ps ++ [(f, p)]) c2) (l0.length + 1) with
          | some j =>
            obtain ⟨s2, s3, a2, hq2⟩ := fin j (by have := findBrk_le hf2; omega) (by unfold cutAt; rw [hf1]; unfold cutAt; rw [hf2])
            exact chB4 w (ca := c1) (cb := c2) (rest := [32]) hs hd hs1 m2 a1 hK hKb h1.2 (by rw [hbr]; exact hf1) h2.2 (by rw [hbr]; exact hf2) hgt hasc z1 hk60 htw ln s1 s2 s3 a2 hv hq2
          | none =>
            obtain ⟨s2, s3, a2, hq2⟩ := fin (l0.length + 1) (by omega) (by unfold cutAt; rw [hf1]; unfold cutAt; rw [hf2]; rfl)
            subst hfe
            exact chB5 w (ca := c1) (cb := c2) (rest := []) (j := 0) hs hd hs1 m2 a1 hK hKb h1.2 (by rw [hbr]; exact hf1) h2.2 (by rw [hbr]; exact hf2) ha hg1 hgt hasc z1 hk60 htw ln s1 s2 s3 a2 hv hq2
end
end Mine

namespace Mine
open PySem PySem.W PySem.W.X
noncomputable section
noncomputable def foldT {α : Type} : Nat → Sem α → Nat → Nat → Option (α × Nat × List Obj)
  | 0, _, _, _ => none
  | n + 1, m, tk, sz => match m with
    | .pure a => some (a, tk, [])
    | .rule _ k => foldT n (k ()) tk sz
    | .fresh k => foldT n (k tk) (tk + 1) sz
    | .alloc o k => match o.isFreed with
      | true => none
      | false => match foldT n (k sz) tk (sz + 1) with
        | none => none
        | some r => some (r.1, r.2.1, o :: r.2.2)
    | _ => none
section
variable {M : Model} {A : Around} {α : Type} {E : Value → Shared → Prop}
theorem wpAny_foldT : ∀ (n : Nat) (m : Sem α) (h : Heap) (g : Array GenState) (d : Drawn) (tk : Nat) (os : OsState) (a : α) (tk' : Nat) (l : List Obj) (Q : α → Shared → Prop),
    foldT n m tk h.objs.size = some (a, tk', l) → Q a ⟨l.foldl Heap.push h, g, d, tk', os⟩ → wpAny M A m Q E ⟨h, g, d, tk, os⟩
  | 0, _, _, _, _, _, _, _, _, _, _, e, _ => by cases e
  | n + 1, m, h, g, d, tk, os, a, tk', l, Q, e, hQ => by
    unfold foldT at e
    cases m with
    | pure b => cases e; exact wpAny_pure hQ
    | rule _ k => exact fun Γ p hΓ => wpAny_foldT n (k ()) h g d tk os a tk' l Q e hQ Γ p hΓ
    | fresh k => exact fun Γ p hΓ => wpAny_foldT n (k tk) h g d (tk + 1) os a tk' l Q e hQ Γ p hΓ
    | alloc o k =>
      dsimp only at e
      split at e
      · cases e
      · split at e
        · cases e
        · rename_i r hr
          obtain ⟨r1, r2, r3⟩ := r
          cases e
          refine wpAny_bind (m := alloc o) (f := k) (wpAny_alloc ?_)
          exact wpAny_foldT n (k h.objs.size) (h.push o) g d tk os r1 r2 r3 Q (by rw [Heap.size_push]; exact hr) hQ
    | _ => cases e
end
noncomputable def reC : Array Nat := #[14, 4, 0, 1, 4294967295, 17, 0, 24, 11, 1, 4294967295, 13, 6, 16, 32, 16, 9, 0, 1, 17, 1, 1]
noncomputable def spText (g : Nat → Nat) : Nat → List Nat
  | 0 => []
  | 1 => [g 0 + 33, g 1 + 33]
  | n + 2 => spText g (n + 1) ++ [32, g (2 * (n + 1)) + 33, g (2 * (n + 1) + 1) + 33]
noncomputable def spOut (g : Nat → Nat) (tk : Nat) : Nat → List Value
  | 0 => []
  | 1 => [.str ⟨#[g 0 + 33, g 1 + 33]⟩ tk]
  | n + 2 => spOut g tk (n + 1) ++ [.str ⟨#[32]⟩ (tk + (2 * n + 1)), .str ⟨#[g (2 * (n + 1)) + 33, g (2 * (n + 1) + 1) + 33]⟩ (tk + (2 * n + 2))]
theorem entry_re_split : entryFor table "re.Pattern.split" = some Builtin.«re.Pattern.split» := entryFor_of_tree (by kernel_rfl)
theorem code59 : Array.map (fun x : Int => x.toNat) (Array.map Builtin.Re.reRawOf ((some #[Value.int 14 0, Value.int 4 0, Value.int 0 0, Value.int 1 0, Value.int 4294967295 0, Value.int 17 0, Value.int 0 0, Value.int 24 0, Value.int 11 0, Value.int 1 0, Value.int 4294967295 0, Value.int 13 0, Value.int 6 0, Value.int 16 0, Value.int 32 0, Value.int 16 0, Value.int 9 0, Value.int 0 0, Value.int 1 0, Value.int 17 0, Value.int 1 0, Value.int 1 0]).getD #[])) = reC := by
  simp [reC, Builtin.Re.reRawOf]
theorem re_named (v : Value) : Builtin.Re.reNamed "re.Pattern.split" "split" ["string", "maxsplit"] 1 [v] [] = pure [some v, none] := by rfl
theorem re_text (x : Str) (t : Nat) : Builtin.Re.reTextOf (.str x t) = pure (x.cps, 0) := rfl
theorem split_all (w : World) {n : Nat} (hn : n = 10 ∨ n = 11 ∨ n = 12 ∨ n = 13 ∨ n = 14) {A : Around} {h : Heap} {g0 : Array GenState} {d : Drawn} {tk : Nat} {os : OsState} (g : Nat → Nat) {t : Nat} {R : Result → Shared → Prop}
    (h60 : h.get? 60 = some (ob60 w.params)) (h59 : h.get? 59 = some (ob59 w.params)) {x : Str} (hx : x = ⟨(spText g n).toArray⟩) {xs : Array Value} (hxs : xs = (spOut g tk n).toArray) {tk' : Nat} (htk : tk' = tk + (2 * n - 1)) (hR : R (.ok (.ret (.ref h.objs.size))) ⟨h.push (lstO xs 0), g0, d, tk', os⟩) :
    codeAny (model PW w) A (.builtin "re.Pattern.split" ⟨[.ref 60, .str x t], []⟩) R ⟨h, g0, d, tk, os⟩ := by
  refine codeAny_builtin entry_re_split ?_
  unfold Builtin.«re.Pattern.split»
  dsimp only
  refine wpAny_bind (wpAny_of_eq (re_named _) ?_)
  dsimp only
  refine wpAny_bind (wpAny_pure ?_)
  refine wpAny_bind ?_
  unfold Builtin.Re.reWholeTarget
  refine wpAny_bind (wpAny_fieldsOf h60 rfl ?_)
  refine wpAny_bind (m := Builtin.Re.reTextOf _) (wpAny_of_eq (re_text _ _) ?_)
  show wpAny _ _ (Builtin.Re.reNoCollectionInside _ 0 >>= _) _ _ _
  refine wpAny_bind (wpAny_of_eq (a := ()) rfl ?_)
  refine wpAny_bind ?_
  unfold Builtin.Re.reRawItems seqItems?
  refine wpAny_bind (wpAny_bind (wpAny_load h59 ?_))
  refine wpAny_pure (wpAny_pure (wpAny_pure ?_))
  rw [code59]
  refine wpAny_foldT 5000 _ h g0 d tk os (Fin.done (.ret (.ref h.objs.size))) tk' [lstO xs 0] _ ?_ hR
  subst hx
  subst hxs
  subst htk
  rcases hn with rfl | rfl | rfl | rfl | rfl <;> kernel_rfl

noncomputable def WdOk (x : Str) : Prop := ∃ a b, x = ⟨#[a + 33, b + 33]⟩
noncomputable def wsOf (g : Nat → Nat) (N : Nat) : List Str := (List.range N).map fun i => ⟨#[g (2 * i) + 33, g (2 * i + 1) + 33]⟩
theorem wsOf_ex (ws : List Str) (h : ∀ x ∈ ws, WdOk x) : ∃ g, ws = wsOf g ws.length := by
  refine ⟨fun j => ((ws[j / 2]?.getD ⟨#[]⟩).cps[j % 2]?.getD 0) - 33, ?_⟩
  apply List.ext_getElem
  · simp [wsOf]
  · intro i h1 h2
    obtain ⟨a, b, e⟩ := h _ (List.getElem_mem h1)
    simp only [wsOf, List.getElem_map, List.getElem_range]
    have e1 : 2 * i / 2 = i := by omega
    have e2 : (2 * i + 1) / 2 = i := by omega
    have e3 : 2 * i % 2 = 0 := by omega
    have e4 : (2 * i + 1) % 2 = 1 := by omega
    rw [e1, e2, e3, e4, List.getElem?_eq_getElem h1]
    simp only [Option.getD_some]
    rw [e]
    simp
noncomputable def PairsV : List Pt → List Value → Prop
  | [], [] => True
  | x :: l, .str f _ :: .str p _ :: vs => f = x.1 ∧ p = x.2 ∧ PairsV l vs
  | _, _ => False
noncomputable def ptsOf : List Str → List Pt
  | [] => []
  | x :: l => (S "", x) :: l.map fun y => (S " ", y)
theorem PairsV.append : ∀ {l l' : List Pt} {vs vs' : List Value}, PairsV l vs → PairsV l' vs' → PairsV (l ++ l') (vs ++ vs')
  | [], l', [], vs', _, h' => h'
  | x :: l, l', .str f ft :: .str p pt :: vs2, vs', h, h' => ⟨h.1, h.2.1, PairsV.append h.2.2 h'⟩
theorem wsOf_succ (g : Nat → Nat) (n : Nat) : wsOf g (n + 1) = wsOf g n ++ [⟨#[g (2 * n) + 33, g (2 * n + 1) + 33]⟩] := by
  unfold wsOf
  rw [List.range_succ, List.map_append]
  rfl
theorem ptsOf_snoc (x y : Str) : ∀ l, ptsOf (x :: l ++ [y]) = ptsOf (x :: l) ++ [(S " ", y)] := fun l => by simp [ptsOf]
theorem blank_eq : S " " = ⟨#[32]⟩ := by decide +kernel
theorem spOut_pairs (g : Nat → Nat) (tk t : Nat) : ∀ n, PairsV (ptsOf (wsOf g (n + 1))) (.str (S "") t :: spOut g tk (n + 1))
  | 0 => ⟨rfl, rfl, trivial⟩
  | n + 1 => by
    have ih := spOut_pairs g tk t n
    have e1 : ptsOf (wsOf g (n + 2)) = ptsOf (wsOf g (n + 1)) ++ [(S " ", ⟨#[g (2 * (n + 1)) + 33, g (2 * (n + 1) + 1) + 33]⟩)] := by
      rw [wsOf_succ g (n + 1)]
      cases h : wsOf g (n + 1) with
      | nil => have := congrArg List.length h; simp [wsOf] at this
      | cons x l => exact ptsOf_snoc x _ l
    rw [e1]
    show PairsV _ ((.str (S "") t :: spOut g tk (n + 1)) ++ [.str ⟨#[32]⟩ (tk + (2 * n + 1)), .str ⟨#[g (2 * (n + 1)) + 33, g (2 * (n + 1) + 1) + 33]⟩ (tk + (2 * n + 2))])
    exact ih.append ⟨blank_eq.symm, rfl, trivial⟩
theorem spOut_len (g : Nat → Nat) (tk : Nat) : ∀ n, (spOut g tk (n + 1)).length = 2 * n + 1
  | 0 => rfl
  | n + 1 => by
    show (spOut g tk (n + 1) ++ _).length = _
    rw [List.length_append, spOut_len g tk n]
    simp
    omega
noncomputable def fRe (ws : List Str) (x : Str) : Prop := x = Txt.join (S " ") ws ∧ 10 ≤ ws.length ∧ ws.length ≤ 14 ∧ ∀ x ∈ ws, WdOk x
noncomputable def spC (x : Str × Nat) : Cl := ⟨.builtin "re.Pattern.split" ⟨[.ref 60, .str x.1 x.2], []⟩, []⟩
noncomputable def ctSplit (ws : List Str) : Ct := mkC 10 (fun c _ _ => (vS (arg c 1), vT (arg c 1))) spC fun x q gs tk post =>
  fRe ws x.1 ∧ ∀ (n tk' : Nat) (xs : Array Value), xs.size ≤ 40 → (∀ t, PairsV (ptsOf ws) (.str (S "") t :: xs.toList)) → post (.ok (.ret (.ref (n + 247)))) tk' [] [(n + 247, lstO xs 0)] []
theorem ctSplit_ok (w : World) (V : Vol) (ws : List Str) : CtOk w V (ctSplit ws) := mkC_by fun y q gs tk post hp A Q h g0 d os hr H hQ => by
  obtain ⟨x, t⟩ := y
  obtain ⟨⟨hx, h1, h2, hw⟩, hp⟩ := hp
  obtain ⟨g, hg⟩ := wsOf_ex ws hw
  have h60 := H.top 60 _ (show (top w.params).get 60 = some (ob60 w.params) from by kernel_rfl)
  have h59 := H.top 59 _ (show (top w.params).get 59 = some (ob59 w.params) from by kernel_rfl)
  generalize hn : ws.length = N at *
  obtain ⟨M, rfl⟩ : ∃ M, N = M + 1 := ⟨N - 1, by omega⟩
  have hr' := hp (h.objs.size - 247) (tk + (2 * (M + 1) - 1)) (spOut g tk (M + 1)).toArray (by rw [List.size_toArray, spOut_len]; omega) (fun t => hg ▸ spOut_pairs g tk t M)
  rw [Nat.sub_add_cancel H.big] at hr'
  have hN : M + 1 = 10 ∨ M + 1 = 11 ∨ M + 1 = 12 ∨ M + 1 = 13 ∨ M + 1 = 14 := by omega
  refine split_all w hN g h60 h59 (hx.trans ?_) rfl rfl (hQ _ _ _ _ _ _ _ hr' (H.push rfl))
  rw [hg]
  rcases hN with e | e | e | e | e <;> (obtain rfl := Nat.succ.inj e; kernel_rfl)
end
end Mine

namespace Mine
open PySem PySem.W PySem.W.X
noncomputable section
noncomputable def ctIaddL : Ct := ⟨4, fun c L q gs tk post => sRR 7635736742594467534504881056365 c L fun a b xs F o => kO (lstV o) fun ys => xs.size ≤ 1000 ∧ ys.size ≤ 1000 ∧ ∀ ep' : Nat, post (.ok (.ret (.ref a))) tk [F (xs ++ ys) ep', o] [] []⟩
theorem ctIaddL_ok (w : World) (V : Vol) : CtOk w V ctIaddL := by
  intro c L q gs tk post hp A Q h g d os hr H hQ
  dsimp only [ctIaddL] at hp
  replace hp := sRR_e "list.__iadd__" (by decide +kernel) hp
  obtain ⟨x', y', k, xs, o, rfl, rfl, hp⟩ := hp
  replace hp := kO_e hp
  obtain ⟨ys, hy, hsz, hsy, hp⟩ := hp
  replace hy := lstV_eq hy
  obtain ⟨d', ey, sl', rfl⟩ := hy
  have ho := H.has _ (List.mem_cons_self ..)
  have hb := H.has _ (List.mem_cons_of_mem _ (List.mem_cons_self ..))
  have hT : (⟨h, g, d, tk, os⟩ : Shared).TypeIs (.ref y') "list" := ⟨_, hb, rfl⟩
  refine codeAny_builtin PySem.F.entry_list_iadd ?_
  show wpAny _ _ (Builtin.List.listExtendWith (.ref x') (.ref y') (.ref x')) _ _ _
  unfold Builtin.List.listExtendWith
  refine wpAny_bind (wpAny_typeOf hT ?_)
  rw [if_pos (by simp)]
  refine wpAny_bind (m := Builtin.List.listItems (.ref y')) ?_
  unfold Builtin.List.listItems
  refine wpAny_bind (wpAny_seqItems hb rfl (wpAny_pure ?_))
  refine wpAny_bind (wpAny_bind (wpAny_seqItems ho rfl (wpAny_pure ?_)))
  have h24 : sizeLine = 16777216 := rfl
  have hl : Builtin.List.listTooLong (xs.size + ys.size) = false := by
    unfold Builtin.List.listTooLong
    simp only [decide_eq_false_iff_not]
    omega
  have hl' : ¬ ((!xs.isEmpty && Builtin.List.listTooLong (xs.size + ys.size)) = true) := by
    rw [hl, Bool.and_false]
    exact Bool.false_ne_true
  rw [if_neg hl']
  refine wpAny_bind (m := Builtin.List.listUpdate (.ref x') _) ?_
  show wpAny _ _ (updateSeq x' _) _ _ _
  exact wpAny_updateSeq ho rfl (wpAny_pure (hQ _ _ _ _ _ _ _ (hp _) (H.upd (f := Obj.mapSeq fun xs' => xs' ++ ys) rfl))) (by omega) (by rw [Array.size_append]; omega)
noncomputable def liO (p : Nat) (k : Nat) : Obj := { cls := .type "list_iterator", data := .fields #[.ref p, .int (Int.ofNat k) 0] }
noncomputable def liE (k : Nat) : Obj := { cls := .type "list_iterator", data := .fields #[.none, .int (Int.ofNat k) 0] }
noncomputable def AtN (xs : Array Value) (k : Nat) (v : Value) : Prop := xs[k]? = some v
theorem entry_lnext : entryFor table "list_iterator.__next__" = some Builtin.«list_iterator.__next__» := entryFor_of_tree (by kernel_rfl)
noncomputable def lnC (x : Nat × Nat × Nat × Obj) : Cl := ⟨.builtin "list_iterator.__next__" ⟨[.ref (x.1 + 247)], []⟩, [(x.1 + 247, liO (x.2.1 + 247) x.2.2.1), (x.2.1 + 247, x.2.2.2)]⟩
noncomputable def lnS (L : List (Nat × Obj)) : Nat × Nat × Nat × Obj := (lA L 0, lA L 1, (vI (atV (oFld (lO L 0)) 1)).toNat, lO L 1)
noncomputable def ctLNext (v : Value) : Ct := mkC 4 (fun _ L _ => lnS L) lnC fun x q gs tk post =>
  isSeq x.2.2.2 = true ∧ AtN (oSeq x.2.2.2) x.2.2.1 v ∧ post (.ok (.ret v)) tk [liO (x.2.1 + 247) (x.2.2.1 + 1), x.2.2.2] [] []
theorem ctLNext_ok (w : World) (V : Vol) (v : Value) : CtOk w V (ctLNext v) := mkC_by fun x q gs tk post hp A Q h g d os hr H hQ => by
  obtain ⟨I', p', k, o⟩ := x
  obtain ⟨hs, hx, hp2⟩ := hp
  obtain ⟨ep, hod⟩ := isSeq_e hs
  have hI := H.has _ (List.mem_cons_self ..)
  have hP := H.has _ (List.mem_cons_of_mem _ (List.mem_cons_self ..))
  refine codeAny_builtin entry_lnext ?_
  show wpAny _ _ (field (.ref (I' + 247)) 0 >>= _) _ _ _
  refine wpAny_bind (wpAny_field hI rfl (x := .ref (p' + 247)) rfl ?_)
  show wpAny _ _ (field (.ref (I' + 247)) 1 >>= _) _ _ _
  refine wpAny_bind (wpAny_field hI rfl (x := .int (Int.ofNat k) 0) rfl ?_)
  show wpAny _ _ (seqItems? (.ref (p' + 247)) >>= _) _ _ _
  refine wpAny_bind (wpAny_seqItems hP hod ?_)
  have hx' : (oSeq o)[(Int.ofNat k).toNat]? = some v := hx
  simp only [hx']
  refine wpAny_bind (wpAny_setField hI rfl (by show 1 < 2; decide) ?_)
  exact wpAny_pure (hQ _ _ _ _ _ _ _ hp2 (H.upd (f := Obj.mapFields fun vs => vs.setIfInBounds 1 (rawInt (Int.ofNat k + 1))) rfl))
noncomputable def foldE {α : Type} : Nat → Sem α → Nat → Nat → Option (Value × Nat × List Obj)
  | 0, _, _, _ => none
  | n + 1, m, tk, sz => match m with
    | .raise e => some (e, tk, [])
    | .rule _ k => foldE n (k ()) tk sz
    | .fresh k => foldE n (k tk) (tk + 1) sz
    | .handled own k => match own with
      | false => foldE n (k none) tk sz
      | true => none
    | .alloc o k => match o.isFreed with
      | true => none
      | false => match foldE n (k sz) tk (sz + 1) with
        | none => none
        | some r => some (r.1, r.2.1, o :: r.2.2)
    | _ => none
theorem wpAny_foldE {M : Model} {A : Around} {α : Type} : ∀ (n : Nat) (m : Sem α) (h : Heap) (g : Array GenState) (d : Drawn) (tk : Nat) (os : OsState) (sz : Nat) (hsz : h.objs.size = sz) (e : Value) (tk' : Nat) (l : List Obj) (Q : α → Shared → Prop) (E : Value → Shared → Prop) (hA : A.handled = none),
    foldE n m tk sz = some (e, tk', l) → E e ⟨l.foldl Heap.push h, g, d, tk', os⟩ → wpAny M A m Q E ⟨h, g, d, tk, os⟩
  | 0, _, _, _, _, _, _, _, _, _, _, _, _, _, _, e, _ => by cases e
  | n + 1, m, h, g, d, tk, os, sz, hsz, ex, tk', l, Q, E, hA, e, hE => by
    unfold foldE at e
    cases m with
    | raise b => cases e; exact fun Γ p hΓ => hE
    | rule _ k => exact fun Γ p hΓ => wpAny_foldE n (k ()) h g d tk os sz hsz ex tk' l Q E hA e hE Γ p hΓ
    | fresh k => exact fun Γ p hΓ => wpAny_foldE n (k tk) h g d (tk + 1) os sz hsz ex tk' l Q E hA e hE Γ p hΓ
    | handled own k =>
      cases own with
      | false =>
        refine wpAny_bind (m := handled) (f := k) (wpAny_handled ?_)
        rw [hA]
        exact wpAny_foldE n (k none) h g d tk os sz hsz ex tk' l Q E hA e hE
      | true => cases e
    | alloc o k =>
      dsimp only at e
      split at e
      · cases e
      · split at e
        · cases e
        · rename_i r hr
          obtain ⟨r1, r2, r3⟩ := r
          cases e
          refine wpAny_bind (m := alloc o) (f := k) (wpAny_alloc ?_)
          rw [hsz]
          exact wpAny_foldE n (k sz) (h.push o) g d tk os (sz + 1) (by rw [Heap.size_push, hsz]) r1 r2 r3 Q E hA hr hE
    | _ => cases e
theorem After.push {V : Vol} {h h' : Heap} {g' : Array GenState} {L q ns nq : List (Nat × Obj)} {L' : List Obj} (Af : After V h L q h' g' L' ns nq) {o : Obj} (hf : o.isFreed = false) :
    After V h L q (h'.push o) g' L' (ns ++ [(h'.objs.size, o)]) nq := by
  refine ⟨Af.len, fun i p o' e1 e2 hl => Heap.get?_push_of_some _ (Af.here i p o' e1 e2 hl), fun p hp => ?_, ?_, fun p hp => ?_, fun b o' e hv hb => Heap.get?_push_of_some _ (Af.keep b o' e hv hb), ?_, Af.inv.same fun a _ o' e => Heap.get?_push_of_some _ e⟩
  · rcases List.mem_append.mp hp with hp | hp
    · exact ⟨Heap.get?_push_of_some _ (Af.new p hp).1, (Af.new p hp).2⟩
    · rw [List.mem_singleton.mp hp]
      exact ⟨Heap.get?_push_size _ hf, Af.size⟩
  · rw [List.map_append, List.nodup_append]
    refine ⟨Af.newd, by simp, fun a ha b hb => ?_⟩
    obtain ⟨p, hp, rfl⟩ := List.mem_map.mp ha
    simp only [List.map_cons, List.map_nil, List.mem_singleton] at hb
    rw [hb]
    exact Nat.ne_of_lt (Heap.lt_size (Af.new p hp).1)
  · rcases Af.kn p hp with hx | ⟨y1, y2, y3⟩
    · exact .inl hx
    · refine .inr ⟨Heap.get?_push_of_some _ y1, y2, fun hm => ?_⟩
      rw [List.map_append] at hm
      rcases List.mem_append.mp hm with hm | hm
      · exact y3 hm
      · simp only [List.map_cons, List.map_nil, List.mem_singleton] at hm
        exact absurd (Heap.lt_size y1) (by rw [hm]; exact Nat.lt_irrefl _)
  · rw [Heap.size_push]
    exact Nat.le_succ_of_le Af.size
noncomputable def exO (t : Nat) : Obj := { cls := .type "StopIteration", data := .fields #[.ref t, .none, .none, .none, .bool false, .none] }
noncomputable def ctLEnd : Ct := mkC 4 (fun _ L _ => lnS L) lnC fun x q gs tk post =>
  isSeq x.2.2.2 = true ∧ (oSeq x.2.2.2).size ≤ x.2.2.1 ∧ ∀ n : Nat, post (.error (.ref (n + 248))) tk [liE x.2.2.1, x.2.2.2] [(n + 247, tupO []), (n + 248, exO (n + 247))] []
theorem ctLEnd_ok (w : World) (V : Vol) : CtOk w V ctLEnd := mkC_by fun x q gs tk post hp A Q h g d os hr H hQ => by
  obtain ⟨I', p', k, o⟩ := x
  obtain ⟨hs, hx, hp⟩ := hp
  obtain ⟨ep, hod⟩ := isSeq_e hs
  have hI := H.has _ (List.mem_cons_self ..)
  have hP := H.has _ (List.mem_cons_of_mem _ (List.mem_cons_self ..))
  refine codeAny_builtin entry_lnext ?_
  show wpAny _ _ (field (.ref (I' + 247)) 0 >>= _) _ _ _
  refine wpAny_bind (wpAny_field hI rfl (x := .ref (p' + 247)) rfl ?_)
  show wpAny _ _ (field (.ref (I' + 247)) 1 >>= _) _ _ _
  refine wpAny_bind (wpAny_field hI rfl (x := .int (Int.ofNat k) 0) rfl ?_)
  show wpAny _ _ (seqItems? (.ref (p' + 247)) >>= _) _ _ _
  refine wpAny_bind (wpAny_seqItems hP hod ?_)
  have hx' : (oSeq o)[(Int.ofNat k).toNat]? = none := Array.getElem?_eq_none hx
  simp only [hx']
  refine wpAny_bind (wpAny_rule ?_)
  refine wpAny_bind (wpAny_setField hI rfl (by show 0 < 2; decide) ?_)
  have U := H.upd (f := Obj.mapFields fun vs => vs.setIfInBounds 0 .none) (h := h) rfl
  have hsz : (h.update (I' + 247) (Obj.mapFields fun vs => vs.setIfInBounds 0 .none)).objs.size = h.objs.size := (Heap.SameBut.update ..).1
  refine wpAny_foldE 60 _ (h.update (I' + 247) (Obj.mapFields fun vs => vs.setIfInBounds 0 .none)) g d tk os h.objs.size hsz (.ref (h.objs.size + 1)) tk [tupO [], exO h.objs.size] _ _ hr.hd (by kernel_rfl) ?_
  have hr' := hp (h.objs.size - 247)
  have e1 : h.objs.size - 247 + 247 = h.objs.size := Nat.sub_add_cancel H.big
  have e2 : h.objs.size - 247 + 248 = h.objs.size + 1 := by omega
  rw [e1, e2] at hr'
  have W := (U.push (o := tupO []) rfl).push (o := exO h.objs.size) rfl
  rw [Heap.size_push, hsz] at W
  exact hQ _ _ _ _ _ _ _ hr' W
theorem zip_get {L : List (Nat × Obj)} {L' : List Obj} (hl : L'.length = L.length) : ((L.map Prod.fst).zip L').map Prod.fst = L.map Prod.fst := by
  rw [List.map_fst_zip]
  rw [List.length_map, hl]
  exact Nat.le_refl _
theorem After.have {P : Params} {V : Vol} {h h' : Heap} {g g' : Array GenState} {L q ns nq : List (Nat × Obj)} {gs : List (Nat × Code)} {L' : List Obj} (H : Have P V h g L q gs) (Af : After V h L q h' g' L' ns nq) (hf : ∀ o ∈ L', o.isFreed = false) :
    Have P V h' g' ((L.map Prod.fst).zip L' ++ ns) (nq ++ q) [] := by
  have hz := zip_get Af.len
  have keepT : ∀ b o, h.get? b = some o → b ∉ V.vs → b ∉ L.map Prod.fst → h'.get? b = some o := Af.keep
  have topA : ∀ a o, (Mine.top P).get a = some o → a ∉ L.map Prod.fst := fun a o e hm => by
    obtain ⟨p, hp, rfl⟩ := List.mem_map.mp hm
    rw [(H.apart p hp).1] at e
    cases e
  have nlt : ∀ p ∈ ns, ∀ x, (∃ o, h.get? x = some o) → x ≠ p.1 := fun p hp x ⟨o, hx⟩ e => by
    rw [e] at hx
    exact absurd (Heap.lt_size hx) (Nat.not_lt.mpr (Af.new p hp).2)
  refine ⟨fun a o e => keepT a o (H.top a o e) (H.tv a o e) (topA a o e), fun p hp => ?_, ?_, fun p hp => ?_, fun p hp => ?_, H.tv, Nat.le_trans H.big Af.size, Af.inv, fun p hp => nomatch hp⟩
  · rcases List.mem_append.mp hp with hp | hp
    · obtain ⟨i, hi⟩ := List.getElem?_of_mem hp
      rw [List.getElem?_zip_eq_some] at hi
      obtain ⟨h1, h2⟩ := hi
      rw [List.getElem?_map, Option.map_eq_some_iff] at h1
      obtain ⟨p', h3, h4⟩ := h1
      rw [← h4]
      exact Af.here i p' _ h3 h2 (hf _ (List.mem_of_getElem? h2))
    · exact (Af.new p hp).1
  · rw [List.map_append, hz, List.nodup_append]
    refine ⟨H.nodup, Af.newd, fun a ha b hb => ?_⟩
    obtain ⟨p, hp, rfl⟩ := List.mem_map.mp ha
    obtain ⟨p', hp', rfl⟩ := List.mem_map.mp hb
    exact nlt p' hp' _ ⟨_, H.has p hp⟩
  · rcases List.mem_append.mp hp with hp | hp
    · have : p.1 ∈ L.map Prod.fst := by rw [← hz]; exact List.mem_map_of_mem hp
      obtain ⟨p', hp', e⟩ := List.mem_map.mp this
      rw [← e]
      exact H.apart p' hp'
    · have y := (Af.new p hp).2
      refine ⟨?_, fun x => ?_⟩
      · cases e : (Mine.top P).get p.1 with
        | none => rfl
        | some o => exact absurd (Heap.lt_size (H.top _ _ e)) (Nat.not_lt.mpr y)
      · exact absurd (H.inv.lt x) (Nat.not_lt.mpr y)
  · have main : ∀ p ∈ q, h'.get? p.1 = some p.2 ∧ p.1 ∉ (((L.map Prod.fst).zip L') ++ ns).map Prod.fst ∧ p.1 ∉ V.vs := fun p hp => by
      have y := H.gh p hp
      refine ⟨Af.keep _ _ y.1 y.2.2 y.2.1, fun hm => ?_, y.2.2⟩
      rw [List.map_append, hz] at hm
      rcases List.mem_append.mp hm with hm | hm
      · exact y.2.1 hm
      · obtain ⟨p', hp', e⟩ := List.mem_map.mp hm
        exact nlt p' hp' _ ⟨_, y.1⟩ e.symm
    rcases List.mem_append.mp hp with hp | hp
    · rcases Af.kn p hp with hq | ⟨y1, y2, y3⟩
      · exact main p hq
      · refine ⟨y1, fun hm => ?_, fun x => ?_⟩
        · rw [List.map_append, hz] at hm
          rcases List.mem_append.mp hm with hm | hm
          · obtain ⟨p', hp', e⟩ := List.mem_map.mp hm
            rw [← e] at y2
            exact absurd (Heap.lt_size (H.has p' hp')) (Nat.not_lt.mpr y2)
          · exact y3 hm
        · exact absurd (H.inv.lt x) (Nat.not_lt.mpr y2)
    · exact main p hp
theorem After.trans {P : Params} {V : Vol} {h h1 h2 : Heap} {g g1 g2 : Array GenState} {L q ns nq ns2 nq2 : List (Nat × Obj)} {gs : List (Nat × Code)} {L1 L2 : List Obj} (H : Have P V h g L q gs) (A1 : After V h L q h1 g1 L1 ns nq) (hf : ∀ o ∈ L1, o.isFreed = false)
    (A2 : After V h1 ((L.map Prod.fst).zip L1 ++ ns) (nq ++ q) h2 g2 L2 ns2 nq2) : After V h L q h2 g2 (L2.take L.length) [] nq2 := by
  have hz := zip_get A1.len
  have H1 := A1.have H hf
  have hlen : ((L.map Prod.fst).zip L1).length = L.length := by rw [List.length_zip, List.length_map, A1.len, Nat.min_self]
  refine ⟨?_, fun i p o e1 e2 hl => ?_, (fun p hp => nomatch hp), List.nodup_nil, fun p hp => ?_, fun b o e hv hb => ?_, Nat.le_trans A1.size A2.size, A2.inv⟩
  · rw [List.length_take, A2.len, List.length_append, hlen]
    omega
  · have hi : i < L.length := (List.getElem?_eq_some_iff.mp e1).1
    rw [List.getElem?_take_of_lt hi] at e2
    have hi1 : i < L1.length := by rw [A1.len]; exact hi
    have e3 : ((L.map Prod.fst).zip L1 ++ ns)[i]? = some (p.1, L1[i]) := by
      rw [List.getElem?_append_left (by rw [hlen]; exact hi), List.getElem?_zip_eq_some]
      exact ⟨by rw [List.getElem?_map, e1]; rfl, List.getElem?_eq_getElem hi1⟩
    exact A2.here i (p.1, L1[i]) o e3 e2 hl
  · rcases A2.kn p hp with hq | ⟨y1, y2, y3⟩
    · rcases List.mem_append.mp hq with hq' | hq'
      · rcases A1.kn p hq' with hq2 | ⟨z1, z2, z3⟩
        · exact .inl hq2
        · have y := H1.gh p hq
          exact .inr ⟨A2.keep _ _ y.1 y.2.2 y.2.1, z2, by simp⟩
      · exact .inl hq'
    · exact .inr ⟨y1, Nat.le_trans A1.size y2, by simp⟩
  · refine A2.keep b o (A1.keep b o e hv hb) hv fun hm => ?_
    rw [List.map_append, hz] at hm
    rcases List.mem_append.mp hm with hm | hm
    · exact hb hm
    · obtain ⟨p', hp', e'⟩ := List.mem_map.mp hm
      rw [← e'] at e
      exact absurd (Heap.lt_size e) (Nat.not_lt.mpr (A1.new p' hp').2)
end
end Mine

namespace Mine
open PySem PySem.W PySem.W.X
noncomputable section
noncomputable def zpO (its own : Nat) : Obj := { cls := .type "zip", data := .fields #[.none, .bool false, .bool false, .ref its, .ref own] }
noncomputable def zpH (a its own : Nat) : Obj := { cls := .type "zip", data := .fields #[.int (Int.ofNat a) 0, .bool false, .bool false, .ref its, .ref own] }
noncomputable def itO (I : Nat) : Obj := tupO [.ref (I + 247), .ref (I + 247)]
noncomputable def zFor : Stmt := nthS (bodyOf (mth 59 7)) 2
noncomputable def asScope : Scope := match mth 59 7 with
  | .FunctionDef _ _ _ _ _ _ sc _ _ _ => sc
  | _ => ⟨.function, [], false, false, []⟩
noncomputable def asEnv (e : Nat) (qu : Str) (fu : Option Addr) (cd : Value) (fr : Option Addr) : Env := ⟨asScope, e, 3, [], qu, fu, cd, fr, 0⟩
noncomputable def zpCode (z : Nat) (env : Env) : Code := .forLoop (targetOf zFor) (.ref z) (bodyOf zFor) (elseOf zFor) env
noncomputable def asD0 (P : Params) (τ : List Nat) (s : Nat) (f x sc : Str) (p ep : Nat) : Obj :=
  { cls := .type "frame", data := .dict #[e P "self" (tn τ 0) (.ref s), e P "fws" (tn τ 1) (.str f (tn τ 2)), e P "string" (tn τ 3) (.str x (tn τ 4)), e P "splitchars" (tn τ 5) (.str sc (tn τ 6)), eZ P "parts" (tn τ 7) (.ref p)] ep }
noncomputable def asD (P : Params) (τ : List Nat) (s : Nat) (f x sc : Str) (p : Nat) (w : Str) (ep : Nat) : Obj :=
  { cls := .type "frame", data := .dict #[e P "self" (tn τ 0) (.ref s), e P "fws" (tn τ 1) (.str f (tn τ 2)), e P "string" (tn τ 3) (.str x (tn τ 4)), e P "splitchars" (tn τ 5) (.str sc (tn τ 6)), eZ P "parts" (tn τ 7) (.ref p), eZ P "part" (tn τ 8) (.str w (tn τ 9))] ep }
structure Zl where
  z : Nat
  e : Nat
  I : Nat
  p : Nat
  own : Nat
  its : Nat
  xs : Array Value
  ep : Nat
  y : Fm
  f0 : Str
  x : Str
  sc : Str
  w : Str
  τ : List Nat
  ee : Nat
  k : Nat
  f : Str
  g : Str
  ft : Nat
  gt : Nat
  qu : Str
  fu : Option Addr
  cd : Value
  fr : Option Addr
noncomputable def zlc (x : Zl) : Code := zpCode (x.z + 247) (asEnv (x.e + 247) x.qu x.fu x.cd x.fr)
noncomputable def zlL (P : Params) (x : Zl) (zo eo io oo : Obj) : List (Nat × Obj) :=
  [(x.z + 247, zo), (x.e + 247, eo), (x.I + 247, io), (x.p + 247, lstO x.xs x.ep), (x.own + 247, oo), (x.y.l + 247, lstO x.y.ls x.y.el), (x.y.x.a + 247, accO (x.y.x.d + 247) x.y.x.xs x.y.x.ep), (x.y.x.d + 247, accD P x.y.x.kt x.y.x.iv x.y.x.it), (x.its + 247, itO x.I)]
noncomputable def zlF (P : Params) (x : Zl) : Obj := asD P x.τ (x.y.s + 247) x.f0 x.x x.sc (x.p + 247) x.w x.ee
noncomputable def zlF0 (P : Params) (x : Zl) : Obj := asD0 P x.τ (x.y.s + 247) x.f0 x.x x.sc (x.p + 247) x.ee
noncomputable def zlS (c : Code) (L : List (Nat × Obj)) : Zl := ⟨lA L 0, lA L 1, lA L 2, lA L 3, lA L 4, lA L 8, oSeq (lO L 3), oEp (lO L 3),
  ⟨vA (eV (lO L 1) 0), lA L 5, oSeq (lO L 5), oEp (lO L 5), acS (L.drop 6)⟩, vS (eV (lO L 1) 1), vS (eV (lO L 1) 2), vS (eV (lO L 1) 3), vS (eV (lO L 1) 5),
  [eT (lO L 1) 0, eT (lO L 1) 1, vT (eV (lO L 1) 1), eT (lO L 1) 2, vT (eV (lO L 1) 2), eT (lO L 1) 3, vT (eV (lO L 1) 3), eT (lO L 1) 4, eT (lO L 1) 5, vT (eV (lO L 1) 5)], oEp (lO L 1),
  (vI (atV (oFld (lO L 2)) 1)).toNat, vS (atV (oFld (lO L 4)) 0), vS (atV (oFld (lO L 4)) 1), vT (atV (oFld (lO L 4)) 0), vT (atV (oFld (lO L 4)) 1), (cEnv c).qual, (cEnv c).func, (cEnv c).code, (cEnv c).frame⟩
noncomputable def zlC (P : Params) (x : Zl) : Cl := ⟨zlc x, zlL P x (zpO (x.its + 247) (x.own + 247)) (zlF P x) (liO (x.p + 247) x.k) (tup2 x.f x.ft x.g x.gt)⟩
noncomputable def zl0 (P : Params) (x : Zl) : Cl := ⟨zlc x, zlL P x (zpO (x.its + 247) (x.own + 247)) (zlF0 P x) (liO (x.p + 247) 0) (tupO [.none, .none])⟩
noncomputable def tNx (v : Value) : Sem PySem.Fin := do
  let r ← PySem.W.ZFast.zw9404975358583537561 v
  match r with
  | some x => ret x
  | none => pure (.done .next)
noncomputable def tBd (t : Expr) (v : Value) (body : List Stmt) (env : Env) (c : Code) : Sem PySem.Fin := do
  PySem.W.ZFast.zw17772580674575903948 t env v
  let f ← execsT body env
  match f with
  | .next => again c
  | .cont => again c
  | .brk => pure (.done .next)
  | .ret v => pure (.done (.ret v))
section
variable {w : World} {A : Around} {R : Result → Shared → Prop} {s : Shared}
theorem own_nx {c : Code} {v : Value} {R' : Result → Shared → Prop} (hm : Mn w A R' c .base (tNx v) s) :
    wpOwn (model PW w) A c (pyNext v) (fun r s' => match r with | some x => R' (.ok (.ret x)) s' | none => R' (.ok .next) s') (fun e s' => R' (.error e) s') s := by
  intro Γ p hc hΓ
  have z := hm Γ p hc hΓ
  unfold tNx at z
  rw [← PySem.W.ZFast.ze9404975358583537561, Sem.wp_bind'] at z
  refine Sem.wp_mono _ _ _ (fun r p' s' y => ?_) (fun _ _ _ y => y) p s z
  cases r with
  | none => exact y
  | some x => exact y
noncomputable def okR (R : Result → Shared → Prop) : Result → Shared → Prop := fun r s => ∃ f, r = .ok f ∧ R (.ok f) s
theorem for_turn {tg : Expr} {it : Value} {bd oe : List Stmt} {env : Env}
    (hn : wpOwn (model PW w) A (.forLoop tg it bd oe env) (pyNext it) (fun r s1 => ∃ v, r = some v ∧ wpOwn (model PW w) A (.forLoop tg it bd oe env) (letOwnedTupleGo tg it v) (fun _ s2 => Mn w A (okR R) (.forLoop tg it bd oe env) .base (tBd tg v bd env (.forLoop tg it bd oe env)) s2) (fun _ _ => False) s1) (fun _ _ => False) s) :
    codeAny (model PW w) A (.forLoop tg it bd oe env) (okR R) s := by
  refine codeAny_of_Mn ?_
  intro Γ p hc hΓ
  show Sem.wp _ Γ ((forTurn tg it bd oe env).onRaise _) _ _ p s
  rw [Sem.wp_onRaise]
  unfold forTurn
  rw [Sem.wp_bind', Sem.wp_cmd_standAt, Sem.wp_bind', Sem.wp_onRaise]
  refine Sem.wp_mono _ _ _ (fun r p1 s1 y => ?_) (fun _ _ _ y => y.elim) _ s (hn Γ _ hc hΓ)
  obtain ⟨v, rfl, y⟩ := y
  dsimp only
  rw [Sem.wp_bind']
  refine Sem.wp_mono _ _ _ (fun _ p2 s2 y => ?_) (fun _ _ _ y => y.elim) _ s1 (y Γ p1 hc hΓ)
  have z := y Γ p2 hc hΓ
  unfold tBd at z
  rw [← PySem.W.ZFast.ze17772580674575903948, ← execsT_eq, Sem.wp_bind'] at z
  rw [Sem.wp_bind']
  refine Sem.wp_mono _ _ _ (fun _ p3 s3 y3 => ?_) (fun _ _ _ y => by obtain ⟨f, e, _⟩ := y; cases e) p2 s2 z
  rw [Sem.wp_bind'] at y3 ⊢
  refine Sem.wp_mono _ _ _ (fun fl p4 s4 y4 => ?_) (fun _ _ _ y => by obtain ⟨f, e, _⟩ := y; cases e) p3 s3 y3
  cases fl <;> exact y4
theorem for_end {tg : Expr} {it : Value} {bd oe : List Stmt} {env : Env}
    (hn : wpOwn (model PW w) A (.forLoop tg it bd oe env) (pyNext it) (fun r s1 => r = none ∧ codeAny (model PW w) A (.block oe env) R s1) (fun _ _ => False) s) :
    codeAny (model PW w) A (.forLoop tg it bd oe env) R s := by
  refine codeAny_of_Mn ?_
  intro Γ p hc hΓ
  show Sem.wp _ Γ ((forTurn tg it bd oe env).onRaise _) _ _ p s
  rw [Sem.wp_onRaise]
  unfold forTurn
  rw [Sem.wp_bind', Sem.wp_cmd_standAt, Sem.wp_bind', Sem.wp_onRaise]
  refine Sem.wp_mono _ _ _ (fun r p1 s1 y => ?_) (fun _ _ _ y => y.elim) _ s (hn Γ _ hc hΓ)
  obtain ⟨rfl, y⟩ := y
  exact ⟨rfl, y⟩
end
noncomputable def chunks (mx : Nat) (M : List Nat) (v : VS) (l : List Pt) : VS := l.foldl (fun v x => chunkStep mx M v x.1 x.2) v
theorem cutAt_le : ∀ (M : List Nat) (l : List Pt) (m : Nat), cutAt M l m ≤ m
  | [], _, m => Nat.le_refl _
  | c :: M, l, m => by
    unfold cutAt
    split
    · rename_i j h
      exact (findBrk_le h).2
    · exact cutAt_le M l m
structure ZOk (v : VS) (l : List Pt) : Prop where
  lines : v.lines.length + l.length ≤ 60
  len : v.ps.length + l.length ≤ 30
  ps : ∀ x ∈ v.ps, PtOk x
  iv : v.iv ≤ 100
  all : ∀ x ∈ l, PtOk x
  bl : ∀ x ∈ l.tail, x.1 = S " "
  fst : ∀ x ∈ l.head?, (v.ps = [] → x.1 = S "" ∧ 0 < v.iv) ∧ (v.ps ≠ [] → x.1 = S " ")
theorem ZOk.vok {v : VS} {l : List Pt} (h : ZOk v l) : VOk v := ⟨by have := h.lines; omega, by have := h.len; omega, h.ps, h.iv⟩
theorem chunk_ne {mx : Nat} {M : List Nat} {v : VS} {f p : Str} : (chunkStep mx M v f p).ps ≠ [] := by
  unfold chunkStep
  split
  · simp
  · split
    · simp
    · rename_i h
      have := cutAt_le M (v.ps ++ [(f, p)]) v.ps.length
      intro e
      have e2 := congrArg List.length e
      simp only [List.length_drop, List.length_append, List.length_cons, List.length_nil] at e2
      omega
theorem ptOk_bl {p : Str} (h : ∃ a b, p = ⟨#[a, b]⟩) : PtOk (S " ", p) := ⟨by show (S " ").length ≤ 1; decide, h⟩
theorem ZOk.step {mx : Nat} {M : List Nat} {v : VS} {x : Pt} {l : List Pt} (h : ZOk v (x :: l)) : ZOk (chunkStep mx M v x.1 x.2) l := by
  have h1 := h.lines
  have h2 := h.len
  have hx := h.all x (List.mem_cons_self ..)
  simp only [List.length_cons] at h1 h2
  have hall : ∀ y ∈ v.ps ++ [(x.1, x.2)], PtOk y := fun y hy => by
    rcases List.mem_append.mp hy with hy | hy
    · exact h.ps y hy
    · rw [List.mem_singleton.mp hy]; exact hx
  refine ⟨?_, ?_, ?_, ?_, fun y hy => h.all y (List.mem_cons_of_mem _ hy), fun y hy => h.bl y (List.mem_of_mem_tail hy), fun y hy => ⟨fun e => absurd e chunk_ne, fun _ => h.bl y (List.mem_of_mem_head? hy)⟩⟩
  · unfold chunkStep
    split
    · simp only; omega
    · split <;> simp only [List.length_append, List.length_cons, List.length_nil] <;> omega
  · unfold chunkStep
    split
    · simp only [List.length_append, List.length_cons, List.length_nil]; omega
    · split
      · simp only [List.length_cons, List.length_nil]; omega
      · simp only [List.length_drop, List.length_append, List.length_cons, List.length_nil]; omega
  · unfold chunkStep
    split
    · exact hall
    · split
      · intro y hy; rw [List.mem_singleton.mp hy]; exact ptOk_bl hx.2
      · intro y hy; exact hall y (List.mem_of_mem_drop hy)
  · unfold chunkStep
    split
    · exact h.iv
    · split <;> exact Nat.zero_le _
theorem takeL_len {α : Type} : ∀ {n : Nat} {l : List α}, (takeL n l).length ≤ n
  | 0, _ => by unfold takeL; exact Nat.le_refl _
  | n + 1, [] => Nat.zero_le _
  | n + 1, x :: l => by rw [takeL]; exact Nat.succ_le_succ takeL_len
theorem takeL_in {α : Type} : ∀ {n : Nat} {l l' : List α} {x : α}, l.length ≤ n → x ∈ l → x ∈ takeL n (l ++ l')
  | 0, l, _, x, h, hx => by have := List.eq_nil_of_length_eq_zero (Nat.le_zero.mp h); subst this; cases hx
  | n + 1, [], _, x, _, hx => nomatch hx
  | n + 1, y :: l, l', x, h, hx => by
    show x ∈ y :: takeL n (l ++ l')
    rcases List.mem_cons.mp hx with rfl | hx
    · exact List.mem_cons_self ..
    · exact List.mem_cons_of_mem _ (takeL_in (Nat.le_of_succ_le_succ h) hx)
theorem zTarget : ∃ es p c, targetOf zFor = .Tuple es p c := ⟨_, _, _, rfl⟩
theorem own_go {M : Model} {A : Around} {tg : Expr} {es : List Expr} {tp : Nat} {tc : Pos} (htg : tg = .Tuple es tp tc) {z a its own : Nat} {s : Shared} {Q : Unit → Shared → Prop} {E : Value → Shared → Prop} (hz : s.heap.get? z = some (zpH a its own))
    (hQ : Q () { s with heap := s.heap.update z (Obj.mapFields fun vs => vs.setIfInBounds 0 .none) }) : wpAny M A (letOwnedTupleGo tg (.ref z) (.ref a)) Q E s := by
  subst htg
  show wpAny _ _ (load z >>= _) _ _ _
  refine wpAny_bind (wpAny_load hz ?_)
  simp only [zpH]
  rw [if_pos (by simp [rawInt])]
  refine wpAny_bind (wpAny_rule ?_)
  exact wpAny_setField (a := z) (i := 0) (x := .none) hz rfl (by show 0 < 5; decide) hQ
section
variable {w : World} {A : Around}
theorem zip_step {Q : Result → Shared → Prop} {h : Heap} {g0 : Array GenState} {dr : Drawn} {tk : Nat} {os : OsState} (x : Zl) {eo o0 : Obj} {k : Nat} {f g : Str} {ft gt : Nat} {q : List (Nat × Obj)} {post : Post}
    (hr : Room 260 A) (heo : eo.isFreed = false) (H : Have w.params V0 h g0 (zlL w.params x (zpO (x.its + 247) (x.own + 247)) eo (liO (x.p + 247) k) o0) q [])
    (run1 : ∀ n gz (post1 : Post), (∀ t : Nat, post1 (.ok (.ret (.ref (t + 247)))) tk ((zlL w.params x (zpH (t + 247) (x.its + 247) (x.own + 247)) eo (liO (x.p + 247) (k + 2)) (tup2 f ft g gt)).map Prod.snd) [] [(t + 247, tup2 f ft g gt)]) →
      RunsT w V0 40 (zlc x) (tNx (.ref (x.z + 247))) (zlL w.params x (zpO (x.its + 247) (x.own + 247)) eo (liO (x.p + 247) k) o0) q [] tk n gz post1)
    (run3 : ∀ (t n gz : Nat) (post3 : Post), (∀ tk' L' nq, post (.ok .next) tk' L' [] nq → post3 (.ok .next) tk' L' [] nq) → RunsT w V0 260 (zlc x) (tBd (targetOf zFor) (.ref (t + 247)) (bodyOf zFor) (asEnv (x.e + 247) x.qu x.fu x.cd x.fr) (zlc x))
      (zlL w.params x (zpO (x.its + 247) (x.own + 247)) eo (liO (x.p + 247) (k + 2)) (tup2 f ft g gt)) ((t + 247, tup2 f ft g gt) :: q) [] tk n gz post3)
    (hQ : ∀ r tk' L' ns nq h' g', post r tk' L' ns nq → After V0 h (zlL w.params x (zpO (x.its + 247) (x.own + 247)) eo (liO (x.p + 247) k) o0) q h' g' L' ns nq → Q r ⟨h', g', dr, tk', os⟩) :
    codeAny (model PW w) A (zlc x) Q ⟨h, g0, dr, tk, os⟩ := by
  have hfz : ∀ zo io oo : Obj, zo.isFreed = false → io.isFreed = false → oo.isFreed = false → ∀ o ∈ (zlL w.params x zo eo io oo).map Prod.snd, o.isFreed = false := fun zo io oo h1 h2 h3 o ho => by
    simp only [zlL, List.map_cons, List.map_nil, List.mem_cons, List.not_mem_nil, or_false] at ho
    rcases ho with rfl | rfl | rfl | rfl | rfl | rfl | rfl | rfl | rfl <;> first | assumption | rfl
  obtain ⟨hk1, hc1, hs1, sl1, sq1, j1, z1⟩ := run1 (h.objs.size - 247) g0.size (fun r tk' L' ns nq => ∃ t : Nat, r = .ok (.ret (.ref (t + 247))) ∧ tk' = tk ∧ L' = (zlL w.params x (zpH (t + 247) (x.its + 247) (x.own + 247)) eo (liO (x.p + 247) (k + 2)) (tup2 f ft g gt)).map Prod.snd ∧ ns = [] ∧ nq = [(t + 247, tup2 f ft g gt)]) (fun t => ⟨t, rfl, rfl, rfl, rfl, rfl⟩)
  have m1 := run_mn (w := w) (V := V0) (A := A) (os := os) (d := dr) (lv := 260) (Q := fun r s' => ∃ (t : Nat) (h1 : Heap) (g1 : Array GenState), r = .ok (.ret (.ref (t + 247))) ∧ s' = ⟨h1, g1, dr, tk, os⟩ ∧ After V0 h (zlL w.params x (zpO (x.its + 247) (x.own + 247)) eo (liO (x.p + 247) k) o0) q h1 g1 ((zlL w.params x (zpH (t + 247) (x.its + 247) (x.own + 247)) eo (liO (x.p + 247) (k + 2)) (tup2 f ft g gt)).map Prod.snd) [] [(t + 247, tup2 f ft g gt)])
    (by decide) hc1 hk1 hr H (fun r tk' L' ns nq h' g' ⟨t, e1, e2, e3, e4, e5⟩ Af => by subst e1; subst e2; subst e3; subst e4; subst e5; exact ⟨t, h', g', rfl, rfl, Af⟩) z1
  have o1 := own_nx m1
  refine codeAny_mono (R := okR Q) (for_turn ?_) (fun r s' ⟨f, e, y⟩ => e ▸ y)
  refine wpOwn_mono o1 (fun r s1 y => ?_) (fun e s1 ⟨t, _, _, x, _⟩ => by cases x)
  cases r with
  | none => obtain ⟨t, _, _, x, _⟩ := y; cases x
  | some v =>
  obtain ⟨t, h1, g1, e1, rfl, A1⟩ := y
  cases e1
  refine ⟨_, rfl, ?_⟩
  have hf1 := hfz (zpH (t + 247) (x.its + 247) (x.own + 247)) (liO (x.p + 247) (k + 2)) (tup2 f ft g gt) rfl rfl rfl
  have H1 : Have w.params V0 h1 g1 (zlL w.params x (zpH (t + 247) (x.its + 247) (x.own + 247)) eo (liO (x.p + 247) (k + 2)) (tup2 f ft g gt)) ((t + 247, tup2 f ft g gt) :: q) [] := A1.have H hf1
  have hz1 := H1.has _ (List.mem_cons_self ..)
  have hf2 := hfz (zpO (x.its + 247) (x.own + 247)) (liO (x.p + 247) (k + 2)) (tup2 f ft g gt) rfl rfl rfl
  have A2 : After V0 h1 (zlL w.params x (zpH (t + 247) (x.its + 247) (x.own + 247)) eo (liO (x.p + 247) (k + 2)) (tup2 f ft g gt)) ((t + 247, tup2 f ft g gt) :: q) (h1.update (x.z + 247) (Obj.mapFields fun vs => vs.setIfInBounds 0 .none)) g1
    ((zlL w.params x (zpO (x.its + 247) (x.own + 247)) eo (liO (x.p + 247) (k + 2)) (tup2 f ft g gt)).map Prod.snd) [] [] := H1.upd (f := Obj.mapFields fun vs => vs.setIfInBounds 0 .none) rfl
  have H2 : Have w.params V0 (h1.update (x.z + 247) (Obj.mapFields fun vs => vs.setIfInBounds 0 .none)) g1 (zlL w.params x (zpO (x.its + 247) (x.own + 247)) eo (liO (x.p + 247) (k + 2)) (tup2 f ft g gt)) ((t + 247, tup2 f ft g gt) :: q) [] := A2.have H1 hf2
  obtain ⟨es, tp, tc, htg⟩ := zTarget
  refine wpOwn_of_wpAny (own_go htg hz1 ?_)
  obtain ⟨hk3, hc3, hs3, sl3, sq3, j3, z3⟩ := run3 t ((h1.update (x.z + 247) (Obj.mapFields fun vs => vs.setIfInBounds 0 .none)).objs.size - 247) g1.size (fun r tk' L' ns nq => r = .ok .next ∧ ns = [] ∧ post r tk' L' ns nq) (fun _ _ _ h => ⟨rfl, rfl, h⟩)
  refine run_mn (w := w) (V := V0) (A := A) (os := os) (d := dr) (lv := 260) (by decide) hc3 hk3 hr H2 (fun r tk' L' ns nq h' g' ⟨e1, e2, hp⟩ A3 => ?_) z3
  subst e1
  subst e2
  have A5 : After V0 h1 (zlL w.params x (zpH (t + 247) (x.its + 247) (x.own + 247)) eo (liO (x.p + 247) (k + 2)) (tup2 f ft g gt)) ((t + 247, tup2 f ft g gt) :: q) h' g' (L'.take 9) [] nq := After.trans H1 A2 hf2 A3
  have A6 : After V0 h (zlL w.params x (zpO (x.its + 247) (x.own + 247)) eo (liO (x.p + 247) k) o0) q h' g' ((L'.take 9).take 9) [] nq := After.trans H A1 hf1 A5
  have e8 : (L'.take 9).take 9 = L' := by rw [List.take_take]; exact List.take_of_length_le (Nat.le_of_eq A3.len)
  rw [e8] at A6
  exact ⟨_, rfl, hQ _ _ _ _ _ _ _ hp A6⟩
end
end
end Mine

namespace Mine
open PySem PySem.W PySem.W.X
noncomputable section
variable (w : World) {x : Zl} {q : List (Nat × Obj)} {tk n gz : Nat} {post : Post}
theorem zn1 {f g : Str} {ft gt : Nat} (h1 : AtN x.xs x.k (.str f ft)) (h2 : AtN x.xs (x.k + 1) (.str g gt))
    (hq : ∀ t : Nat, post (.ok (.ret (.ref (t + 247)))) tk ((zlL w.params x (zpH (t + 247) (x.its + 247) (x.own + 247)) (zlF w.params x) (liO (x.p + 247) (x.k + 2)) (tup2 f ft g gt)).map Prod.snd) [] [(t + 247, tup2 f ft g gt)]) :
    RunsT w V0 40 (zlc x) (tNx (.ref (x.z + 247))) (zlC w.params x).L q [] tk n gz post := by
  obtain ⟨z, e, I, p, own, its, xs, ep, ⟨s, l, ls, el, ⟨a, d, xs1, ep1, kt, iv, it⟩⟩, f0, x, sc, ww, τ, ee, k, f1, g1, ft1, gt1, qu, fu, cd, fr⟩ := x
  exact .go1 sub0 (cC (ctLNext_ok w V0 (.str f ft)) <| c1 (ctLNext_ok w V0 (.str g gt))) [2,0,2,0,2,2,10,2,2,2,2,4,0,4,2,0,2,2,3,6,6,6,6,4,0,4,2,1,2,2,3,6,6,6,6,6,2,2,2,2] [] [9] 0 (by kernel_rfl) (by kernel_rfl) (ai (r7 [I,I,z,z,z,z,its,z,z,z,z]) (ai (rf (lnC ((I, p, k, { cls := Value.type "list", data := Data.seq xs ep })))) (ai (rf true) (ai h1 (fun (n' gz' : Nat) => ai (r7 [I,I,own,own,own,own]) (ai (rf (lnC ((I, p, k + 1, { cls := Value.type "list", data := Data.seq xs ep })))) (ai (rf true) (ai h2 (fun (n'1 gz'1 : Nat) => ai (r7 [z,z,z,z,own,own,own,own,own]) (hq n'1))))))))))
theorem zn0 {f g : Str} {ft gt : Nat} (h1 : AtN x.xs 0 (.str f ft)) (h2 : AtN x.xs 1 (.str g gt))
    (hq : ∀ t : Nat, post (.ok (.ret (.ref (t + 247)))) tk ((zlL w.params x (zpH (t + 247) (x.its + 247) (x.own + 247)) (zlF0 w.params x) (liO (x.p + 247) 2) (tup2 f ft g gt)).map Prod.snd) [] [(t + 247, tup2 f ft g gt)]) :
    RunsT w V0 40 (zlc x) (tNx (.ref (x.z + 247))) (zl0 w.params x).L q [] tk n gz post := by
  obtain ⟨z, e, I, p, own, its, xs, ep, ⟨s, l, ls, el, ⟨a, d, xs1, ep1, kt, iv, it⟩⟩, f0, x, sc, ww, τ, ee, k, f1, g1, ft1, gt1, qu, fu, cd, fr⟩ := x
  exact .go1 sub0 (cC (ctLNext_ok w V0 (.str f ft)) <| c1 (ctLNext_ok w V0 (.str g gt))) [2,0,2,0,2,2,10,2,2,2,2,4,0,4,2,0,2,2,3,6,6,6,6,4,0,4,2,1,2,2,3,6,6,6,6,6,2,2,2,2] [] [9] 0 (by kernel_rfl) (by kernel_rfl) (ai (r7 [I,I,z,z,z,z,its,z,z,z,z]) (ai (rf (lnC ((I, p, 0, { cls := Value.type "list", data := Data.seq xs ep })))) (ai (rf true) (ai h1 (fun (n' gz' : Nat) => ai (r7 [I,I,own,own,own,own]) (ai (rf (lnC ((I, p, 1, { cls := Value.type "list", data := Data.seq xs ep })))) (ai (rf true) (ai h2 (fun (n'1 gz'1 : Nat) => ai (r7 [z,z,z,z,own,own,own,own,own]) (hq n'1))))))))))
theorem znE (h1 : x.xs.size ≤ x.k) (hq : post (.ok .next) tk ((zlL w.params x (zpO (x.its + 247) (x.own + 247)) (zlF w.params x) (liE x.k) (tup2 x.f x.ft x.g x.gt)).map Prod.snd) [] []) :
    RunsT w V0 40 (zlc x) (tNx (.ref (x.z + 247))) (zlC w.params x).L q [] tk n gz post := by
  obtain ⟨z, e, I, p, own, its, xs, ep, ⟨s, l, ls, el, ⟨a, d, xs1, ep1, kt, iv, it⟩⟩, f0, x, sc, ww, τ, ee, k, f1, g1, ft1, gt1, qu, fu, cd, fr⟩ := x
  exact .go1 sub0 (c1 (ctLEnd_ok w V0)) [2,0,2,0,2,2,10,2,2,2,2,4,0,4,2,0,2,2,3,2,2,12] [] [] 0 (by kernel_rfl) (by kernel_rfl) (ai (r7 [I,I,z,z,z,z,its,z,z,z,z]) (ai (rf (lnC ((I, p, k, { cls := Value.type "list", data := Data.seq xs ep })))) (ai (rf true) (ai h1 (fun (n1 n' gz' : Nat) => ai (r7 [n1 + 1,z,z]) (hq))))))
theorem zbl {L q : List (Nat × Obj)} {io : Obj} (hq : post (.ok .next) tk ((zlL w.params x (zpO (x.its + 247) (x.own + 247)) (zlF w.params x) (liE x.k) (tup2 x.f x.ft x.g x.gt)).map Prod.snd) [] []) :
    RunsT w V0 40 (.block (elseOf zFor) (asEnv (x.e + 247) x.qu x.fu x.cd x.fr)) (start w.params (.block (elseOf zFor) (asEnv (x.e + 247) x.qu x.fu x.cd x.fr))) (zlL w.params x (zpO (x.its + 247) (x.own + 247)) (zlF w.params x) (liE x.k) (tup2 x.f x.ft x.g x.gt)) q [] tk n gz post := by
  obtain ⟨z, e, I, p, own, its, xs, ep, ⟨s, l, ls, el, ⟨a, d, xs1, ep1, kt, iv, it⟩⟩, f0, x, sc, ww, τ, ee, k, f1, g1, ft1, gt1, qu, fu, cd, fr⟩ := x
  exact .go1 sub0 c0 [] [] [] 0 (by kernel_rfl) (by kernel_rfl) (ai (r7 []) (hq))
end
end Mine

namespace Mine
open PySem PySem.W PySem.W.X
noncomputable section
noncomputable def ZlE (P : Params) (mx : Nat) (M : List Nat) (v : VS) (l : List Pt) (x : Zl) (q : List (Nat × Obj)) (post : Post) : Prop :=
  ∀ (tk' epl' ep' t' : Nat) (eo zo io po oo to : Obj) (ls' xs' : Array Value) (nq : List (Nat × Obj)), TextsOf ls' (chunks mx M v l).lines → AcOk (toP (chunks mx M v l).ps) xs' (nq ++ q) → nq.length ≤ 3 * l.length →
    post (.ok .next) tk' [zo, eo, io, po, oo, lstO ls' epl', accO (x.y.x.d + 247) xs' ep', accD P x.y.x.kt (Int.ofNat (chunks mx M v l).iv) t', to] [] nq
noncomputable def ZlOk (P : Params) (mx : Nat) (M : List Nat) (v : VS) (l : List Pt) (x : Zl) (q : List (Nat × Obj)) (gs : List (Nat × Code)) (post : Post) : Prop :=
  gs = [] ∧ VfIn P (x.y.s + 247) (x.y.l + 247) (x.y.x.a + 247) (Int.ofNat mx) (scOf M) q ∧ x.xs.size ≤ 60 ∧ ZOk v l ∧ TextsOf x.y.ls v.lines ∧ AcOk (toP v.ps) x.y.x.xs q ∧ x.y.x.iv = Int.ofNat v.iv ∧ ZlE P mx M v l x q post
noncomputable def ctZip (P : Params) (mx : Nat) (M : List Nat) (v : VS) (l : List Pt) : Ct := mkC 260 (fun c L _ => zlS c L) (zlC P) fun x q gs tk post => PairsV l (x.xs.toList.drop x.k) ∧ ZlOk P mx M v l x q gs post
noncomputable def ctZip0 (P : Params) (mx : Nat) (M : List Nat) (v : VS) (l : List Pt) : Ct := mkC 270 (fun c L _ => zlS c L) (zl0 P) fun x q gs tk post => PairsV l x.xs.toList ∧ l ≠ [] ∧ ZlOk P mx M v l x q gs post
section
variable (w : World) {x : Zl} {q : List (Nat × Obj)} {tk n gz t k j : Nat} {post : Post} {mx : Nat} {M : List Nat} {v : VS} {l : List Pt} {f g : Str} {ft gt : Nat} {ds : Nat} {τ : Nat → Nat}
theorem zb1 (hC : CtOk w V0 (ctZip w.params mx M (chunkStep mx M v f g) l)) (hM : MOk M) (hs : (x.y.s + 247, vfO (ds + 247)) ∈ q) (hd : (ds + 247, vfD w.params τ (Int.ofNat mx) (scOf M) (x.y.l + 247) (x.y.x.a + 247)) ∈ q) (ht : (t + 247, tup2 f ft g gt) ∈ q)
    (h1 : VfIn w.params (x.y.s + 247) (x.y.l + 247) (x.y.x.a + 247) (Int.ofNat mx) (scOf M) q) (h2 : VOk v) (h3 : TextsOf x.y.ls v.lines) (h4 : AcOk (toP v.ps) x.y.x.xs q) (h5 : x.y.x.iv = Int.ofNat v.iv) (h6 : ChF v f g)
    (h7 : ∀ y, VfIn w.params (x.y.s + 247) (x.y.l + 247) (x.y.x.a + 247) (Int.ofNat mx) (scOf M) (y :: q)) (h8 : PairsV l (x.xs.toList.drop (k + 2))) (h9 : x.xs.size ≤ 60) (h10 : ZOk (chunkStep mx M v f g) l)
    (o1 : ∀ (f g : Str) (ls' xs' : Array Value) (iv' : Int) (q' : List (Nat × Obj)), ChOut mx M v f g ls' xs' iv' q' → TextsOf ls' (chunkStep mx M v f g).lines) (o2 : ∀ (f g : Str) (ls' xs' : Array Value) (iv' : Int) (q' : List (Nat × Obj)), ChOut mx M v f g ls' xs' iv' q' → AcOk (toP (chunkStep mx M v f g).ps) xs' q') (o3 : ∀ (f g : Str) (ls' xs' : Array Value) (iv' : Int) (q' : List (Nat × Obj)), ChOut mx M v f g ls' xs' iv' q' → iv' = Int.ofNat (chunkStep mx M v f g).iv)
    (hq : ∀ (tn ft' tk' epl' ep' t' : Nat) (f' : Str) (eo zo io po oo to : Obj) (ls' xs' : Array Value) (nq : List (Nat × Obj)), TextsOf ls' (chunks mx M (chunkStep mx M v f g) l).lines → AcOk (toP (chunks mx M (chunkStep mx M v f g) l).ps) xs' (nq ++ ([(tn + 247, tup2 f' ft' g gt)] ++ q)) → nq.length ≤ 3 * l.length →
      post (.ok .next) tk' [zo, eo, io, po, oo, lstO ls' epl', accO (x.y.x.d + 247) xs' ep', accD w.params x.y.x.kt (Int.ofNat (chunks mx M (chunkStep mx M v f g) l).iv) t', to] [] ([] ++ takeL j (nq ++ ([(tn + 247, tup2 f' ft' g gt)] ++ q)))) :
    RunsT w V0 260 (zlc x) (tBd (targetOf zFor) (.ref (t + 247)) (bodyOf zFor) (asEnv (x.e + 247) x.qu x.fu x.cd x.fr) (zlc x))
      (zlL w.params x (zpO (x.its + 247) (x.own + 247)) (zlF w.params x) (liO (x.p + 247) (k + 2)) (tup2 f ft g gt)) q [] tk n gz post := by
  obtain ⟨z, e, I, p, own, its, xs, ep, ⟨s, l1, ls, el, ⟨a, d, xs1, ep1, kt, iv, it⟩⟩, f0, x, sc, ww, τ1, ee, k1, f1, g1, ft1, gt1, qu, fu, cd, fr⟩ := x
  exact .go1 (subC hs (subC hd (subC ht sub0))) (cC (ctChunk_ok w (mx := mx) hM v) <| c1 hC) [1,2,1,2,1,2,0,1,2,0,11,11,0,11,0,11,11,1,2,11,11,11,0,11,0,11,11,1,2,11,11,11,0,11,0,11,11,1,2,11,11,13,3,3,3,3,3,1,0,0,0,0,1,0,0,0,0,1,0,0,0,0,0,1,0,1,1,3,3,0,2,0,3,5,6,7,2,1,9,0,1,2,3,4,5,6,7,8] [] [] j (by kernel_rfl) (by kernel_rfl) (ai (r7 [e,e,ds,s,s,s,s,e,e,e,e,e,n + 2,n,n,t,n,n,n,n,n,n,t,n,n,n,n,n,n,t,n,n,n,n,n,t,t,t,t]) (ai (rf (chC w.params (({ s := s, l := l1, ls := ls, el := el, x := { a := a, d := d, xs := xs1, ep := ep1, kt := kt, iv := iv, it := it } }, f, ft, g, gt)))) (ai h1 (ai h2 (ai h3 (ai h4 (ai h5 (ai h6 (ai (rf ([] : List (Nat × Code))) (fun (tk' : Nat) (epl' : Nat) (ep' : Nat) (t' : Nat) (tn : Nat) (ft' : Nat) (f' : Str) (ls' : Array Value) (xs' : Array Value) (iv' : Int) (x1 : ChOut mx M v f g ls' xs' iv' ((tn + 247, { cls := Value.type "tuple", data := Data.seq #[Value.str f' ft', Value.str g gt] }) :: q)) => fun (n' gz' : Nat) => ai (r7 []) (ai (rf (zlC w.params (⟨z, e, I, p, own, its, xs, ep, ⟨s, l1, ls', epl', ⟨a, d, xs', ep', kt, iv', t'⟩⟩, f, x, sc, g, [Mine.tn τ1 0, Mine.tn τ1 1, ft, Mine.tn τ1 3, Mine.tn τ1 4, Mine.tn τ1 5, Mine.tn τ1 6, Mine.tn τ1 7, Mine.tn τ1 8, gt], ee, k + 2, f, g, ft, gt, qu, fu, cd, fr⟩))) (ai h8 (ai (rf ([] : List (Nat × Code))) (ai (h7 ((tn + 247, { cls := Value.type "tuple", data := Data.seq #[Value.str f' ft', Value.str g gt] }))) (ai h9 (ai h10 (ai (o1 f g ls' xs' iv' ((tn + 247, { cls := Value.type "tuple", data := Data.seq #[Value.str f' ft', Value.str g gt] }) :: q) x1) (ai (o2 f g ls' xs' iv' ([(tn + 247, { cls := Value.type "tuple", data := Data.seq #[Value.str f' ft', Value.str g gt] })] ++ q) x1) (ai (o3 f g ls' xs' iv' ((tn + 247, { cls := Value.type "tuple", data := Data.seq #[Value.str f' ft', Value.str g gt] }) :: q) x1) (fun (tk'1 : Nat) (epl'1 : Nat) (ep'1 : Nat) (t'1 : Nat) (eo : Obj) (zo : Obj) (io : Obj) (po : Obj) (oo : Obj) (to : Obj) (ls'1 : Array Value) (xs'1 : Array Value) (nq : List (Nat × Obj)) (x2 : TextsOf ls'1 (chunks mx M (chunkStep mx M v f g) l).lines) => fun (x3 : AcOk (toP (chunks mx M (chunkStep mx M v f g) l).ps) xs'1 (nq ++ ([(tn + 247, { cls := Value.type "tuple", data := Data.seq #[Value.str f' ft', Value.str g gt] })] ++ q))) => fun (x4 : nq.length ≤ 3 * l.length) (n'1 gz'1 : Nat) => hq tn ft' tk'1 epl'1 ep'1 t'1 f' eo zo io po oo to ls'1 xs'1 nq x2 x3 x4))))))))))))))))))))
theorem zb0 (hC : CtOk w V0 (ctZip w.params mx M (chunkStep mx M v f g) l)) (hM : MOk M) (hs : (x.y.s + 247, vfO (ds + 247)) ∈ q) (hd : (ds + 247, vfD w.params τ (Int.ofNat mx) (scOf M) (x.y.l + 247) (x.y.x.a + 247)) ∈ q) (ht : (t + 247, tup2 f ft g gt) ∈ q)
    (h1 : VfIn w.params (x.y.s + 247) (x.y.l + 247) (x.y.x.a + 247) (Int.ofNat mx) (scOf M) q) (h2 : VOk v) (h3 : TextsOf x.y.ls v.lines) (h4 : AcOk (toP v.ps) x.y.x.xs q) (h5 : x.y.x.iv = Int.ofNat v.iv) (h6 : ChF v f g)
    (h7 : ∀ y, VfIn w.params (x.y.s + 247) (x.y.l + 247) (x.y.x.a + 247) (Int.ofNat mx) (scOf M) (y :: q)) (h8 : PairsV l (x.xs.toList.drop 2)) (h9 : x.xs.size ≤ 60) (h10 : ZOk (chunkStep mx M v f g) l)
    (o1 : ∀ (f g : Str) (ls' xs' : Array Value) (iv' : Int) (q' : List (Nat × Obj)), ChOut mx M v f g ls' xs' iv' q' → TextsOf ls' (chunkStep mx M v f g).lines) (o2 : ∀ (f g : Str) (ls' xs' : Array Value) (iv' : Int) (q' : List (Nat × Obj)), ChOut mx M v f g ls' xs' iv' q' → AcOk (toP (chunkStep mx M v f g).ps) xs' q') (o3 : ∀ (f g : Str) (ls' xs' : Array Value) (iv' : Int) (q' : List (Nat × Obj)), ChOut mx M v f g ls' xs' iv' q' → iv' = Int.ofNat (chunkStep mx M v f g).iv)
    (hq : ∀ (tn ft' tk' epl' ep' t' : Nat) (f' : Str) (eo zo io po oo to : Obj) (ls' xs' : Array Value) (nq : List (Nat × Obj)), TextsOf ls' (chunks mx M (chunkStep mx M v f g) l).lines → AcOk (toP (chunks mx M (chunkStep mx M v f g) l).ps) xs' (nq ++ ([(tn + 247, tup2 f' ft' g gt)] ++ q)) → nq.length ≤ 3 * l.length →
      post (.ok .next) tk' [zo, eo, io, po, oo, lstO ls' epl', accO (x.y.x.d + 247) xs' ep', accD w.params x.y.x.kt (Int.ofNat (chunks mx M (chunkStep mx M v f g) l).iv) t', to] [] ([] ++ takeL j (nq ++ ([(tn + 247, tup2 f' ft' g gt)] ++ q)))) :
    RunsT w V0 260 (zlc x) (tBd (targetOf zFor) (.ref (t + 247)) (bodyOf zFor) (asEnv (x.e + 247) x.qu x.fu x.cd x.fr) (zlc x))
      (zlL w.params x (zpO (x.its + 247) (x.own + 247)) (zlF0 w.params x) (liO (x.p + 247) 2) (tup2 f ft g gt)) q [] tk n gz post := by
  obtain ⟨z, e, I, p, own, its, xs, ep, ⟨s, l1, ls, el, ⟨a, d, xs1, ep1, kt, iv, it⟩⟩, f0, x, sc, ww, τ1, ee, k1, f1, g1, ft1, gt1, qu, fu, cd, fr⟩ := x
  exact .go1 (subC hs (subC hd (subC ht sub0))) (cC (ctChunk_ok w (mx := mx) hM v) <| c1 hC) [1,2,1,2,1,2,0,1,2,0,11,11,0,11,0,11,11,1,2,11,11,11,0,11,0,11,11,1,2,11,11,11,0,11,0,11,11,1,2,11,11,13,3,3,3,3,3,1,0,0,0,0,1,0,0,0,0,1,0,0,0,0,0,1,0,1,1,3,3,0,2,0,3,5,6,7,2,1,9,0,1,2,3,4,5,6,7,8] [] [] j (by kernel_rfl) (by kernel_rfl) (ai (r7 [e,e,ds,s,s,s,s,e,e,e,e,e,n + 2,n,n,t,n,n,n,n,n,n,t,n,n,n,n,n,n,t,n,n,n,n,n,t,t,t,t]) (ai (rf (chC w.params (({ s := s, l := l1, ls := ls, el := el, x := { a := a, d := d, xs := xs1, ep := ep1, kt := kt, iv := iv, it := it } }, f, ft, g, gt)))) (ai h1 (ai h2 (ai h3 (ai h4 (ai h5 (ai h6 (ai (rf ([] : List (Nat × Code))) (fun (tk' : Nat) (epl' : Nat) (ep' : Nat) (t' : Nat) (tn : Nat) (ft' : Nat) (f' : Str) (ls' : Array Value) (xs' : Array Value) (iv' : Int) (x1 : ChOut mx M v f g ls' xs' iv' ((tn + 247, { cls := Value.type "tuple", data := Data.seq #[Value.str f' ft', Value.str g gt] }) :: q)) => fun (n' gz' : Nat) => ai (r7 []) (ai (rf (zlC w.params (⟨z, e, I, p, own, its, xs, ep, ⟨s, l1, ls', epl', ⟨a, d, xs', ep', kt, iv', t'⟩⟩, f, x, sc, g, [Mine.tn τ1 0, Mine.tn τ1 1, ft, Mine.tn τ1 3, Mine.tn τ1 4, Mine.tn τ1 5, Mine.tn τ1 6, Mine.tn τ1 7, tk + 1, gt], ee + 1, 2, f, g, ft, gt, qu, fu, cd, fr⟩))) (ai h8 (ai (rf ([] : List (Nat × Code))) (ai (h7 ((tn + 247, { cls := Value.type "tuple", data := Data.seq #[Value.str f' ft', Value.str g gt] }))) (ai h9 (ai h10 (ai (o1 f g ls' xs' iv' ((tn + 247, { cls := Value.type "tuple", data := Data.seq #[Value.str f' ft', Value.str g gt] }) :: q) x1) (ai (o2 f g ls' xs' iv' ([(tn + 247, { cls := Value.type "tuple", data := Data.seq #[Value.str f' ft', Value.str g gt] })] ++ q) x1) (ai (o3 f g ls' xs' iv' ((tn + 247, { cls := Value.type "tuple", data := Data.seq #[Value.str f' ft', Value.str g gt] }) :: q) x1) (fun (tk'1 : Nat) (epl'1 : Nat) (ep'1 : Nat) (t'1 : Nat) (eo : Obj) (zo : Obj) (io : Obj) (po : Obj) (oo : Obj) (to : Obj) (ls'1 : Array Value) (xs'1 : Array Value) (nq : List (Nat × Obj)) (x2 : TextsOf ls'1 (chunks mx M (chunkStep mx M v f g) l).lines) => fun (x3 : AcOk (toP (chunks mx M (chunkStep mx M v f g) l).ps) xs'1 (nq ++ ([(tn + 247, { cls := Value.type "tuple", data := Data.seq #[Value.str f' ft', Value.str g gt] })] ++ q))) => fun (x4 : nq.length ≤ 3 * l.length) (n'1 gz'1 : Nat) => hq tn ft' tk'1 epl'1 ep'1 t'1 f' eo zo io po oo to ls'1 xs'1 nq x2 x3 x4))))))))))))))))))))
end
end
end Mine

namespace Mine
open PySem PySem.W PySem.W.X
noncomputable section
theorem pairsV_cons {y : Pt} {l : List Pt} : ∀ {vs : List Value}, PairsV (y :: l) vs → ∃ ft gt vs', vs = .str y.1 ft :: .str y.2 gt :: vs' ∧ PairsV l vs'
  | .str f ft :: .str p gt :: vs', ⟨e1, e2, h⟩ => ⟨ft, gt, vs', by rw [e1, e2], h⟩
theorem drop_at {xs : Array Value} {k : Nat} {u v : Value} {vs : List Value} (h : xs.toList.drop k = u :: v :: vs) : AtN xs k u ∧ AtN xs (k + 1) v ∧ xs.toList.drop (k + 2) = vs := by
  have e1 : xs.toList[k]? = some u := by
    have := congrArg (fun l : List Value => l[0]?) h
    simpa [List.getElem?_drop] using this
  have e2 : xs.toList[k + 1]? = some v := by
    have := congrArg (fun l : List Value => l[1]?) h
    simpa [List.getElem?_drop] using this
  refine ⟨by unfold AtN; rw [← Array.getElem?_toList]; exact e1, by unfold AtN; rw [← Array.getElem?_toList]; exact e2, ?_⟩
  rw [show k + 2 = k + 1 + 1 from rfl, ← List.drop_drop, ← List.drop_drop, h]
  rfl
theorem AcOk.take {ps : List Part} {xs : Array Value} {nq q : List (Nat × Obj)} {j : Nat} (h : AcOk ps xs (nq ++ q)) (hj : nq.length ≤ j) : AcOk ps xs (takeL j (nq ++ q) ++ q) := by
  obtain ⟨h1, qs, e, hk, hl⟩ := h
  refine ⟨h1, qs, e, fun p hp => ?_, hl⟩
  obtain ⟨z1, z2⟩ := hk p hp
  refine ⟨?_, z2⟩
  rcases List.mem_append.mp z1 with z1 | z1
  · exact List.mem_append_left _ (takeL_in hj z1)
  · exact List.mem_append_right _ z1
theorem ZOk.chf {v : VS} {f g : Str} {l : List Pt} (h : ZOk v ((f, g) :: l)) : ChF v f g := by
  obtain ⟨_, h2⟩ := h.all (f, g) (List.mem_cons_self ..)
  have h3 := h.fst (f, g) rfl
  exact ⟨h2, h3.1, h3.2⟩
end
end Mine

namespace Mine
open PySem PySem.W PySem.W.X
noncomputable section
theorem AcOk.more {ps : List Part} {xs : Array Value} {q : List (Nat × Obj)} (h : AcOk ps xs q) (y : Nat × Obj) : AcOk ps xs (y :: q) := by
  obtain ⟨h1, qs, e, hk, hl⟩ := h
  exact ⟨h1, qs, e, fun p hp => ⟨List.mem_cons_of_mem _ (hk p hp).1, (hk p hp).2⟩, hl⟩
theorem ctZip_ok (w : World) {mx : Nat} {M : List Nat} (hM : MOk M) (l : List Pt) : ∀ v, CtOk w V0 (ctZip w.params mx M v l) := by
  induction l with
  | nil =>
    intro v
    refine mkC_by fun x q gs tk post hp A Q h g0 dr os hr H hQ => ?_
    obtain ⟨hpv, rfl, hvf, hxs, hzo, htx, hac, hiv, hpost⟩ := hp
    have hk : x.xs.size ≤ x.k := by
      cases hd : x.xs.toList.drop x.k with
      | nil => simpa using hd
      | cons y ys => rw [hd] at hpv; exact hpv.elim
    obtain ⟨hk1, hc1, hs1, sl1, sq1, j1, z1⟩ := znE w (x := x) (q := q) (tk := tk) (n := h.objs.size - 247) (gz := g0.size) (post := fun r tk' L' ns nq => r = .ok .next ∧ tk' = tk ∧ L' = (zlL w.params x (zpO (x.its + 247) (x.own + 247)) (zlF w.params x) (liE x.k) (tup2 x.f x.ft x.g x.gt)).map Prod.snd ∧ ns = [] ∧ nq = []) hk ⟨rfl, rfl, rfl, rfl, rfl⟩
    have m1 := run_mn (w := w) (V := V0) (A := A) (os := os) (d := dr) (lv := 260) (Q := fun r s' => ∃ (h1 : Heap) (g1 : Array GenState), r = .ok .next ∧ s' = ⟨h1, g1, dr, tk, os⟩ ∧ After V0 h (zlC w.params x).L q h1 g1 ((zlL w.params x (zpO (x.its + 247) (x.own + 247)) (zlF w.params x) (liE x.k) (tup2 x.f x.ft x.g x.gt)).map Prod.snd) [] [])
      (by decide) hc1 hk1 hr H (fun r tk' L' ns nq h' g' ⟨e1, e2, e3, e4, e5⟩ Af => by subst e1; subst e2; subst e3; subst e4; subst e5; exact ⟨h', g', rfl, rfl, Af⟩) z1
    have o1 := own_nx m1
    refine for_end ?_
    refine wpOwn_mono o1 (fun r s1 y => ?_) (fun e s1 ⟨_, _, x, _⟩ => by cases x)
    cases r with
    | some _ => obtain ⟨_, _, x, _⟩ := y; cases x
    | none =>
    refine ⟨rfl, ?_⟩
    obtain ⟨h1, g1, _, rfl, A1⟩ := y
    have hf1 : ∀ o ∈ (zlL w.params x (zpO (x.its + 247) (x.own + 247)) (zlF w.params x) (liE x.k) (tup2 x.f x.ft x.g x.gt)).map Prod.snd, o.isFreed = false := fun o ho => by
      simp only [zlL, List.map_cons, List.map_nil, List.mem_cons, List.not_mem_nil, or_false] at ho
      rcases ho with rfl | rfl | rfl | rfl | rfl | rfl | rfl | rfl | rfl <;> rfl
    have H1 : Have w.params V0 h1 g1 (zlL w.params x (zpO (x.its + 247) (x.own + 247)) (zlF w.params x) (liE x.k) (tup2 x.f x.ft x.g x.gt)) q [] := A1.have H hf1
    obtain ⟨hk3, hc3, hs3, sl3, sq3, j3, z3⟩ := zbl w (L := []) (io := frO) (x := x) (q := q) (tk := tk) (n := h1.objs.size - 247) (gz := g1.size) (post := fun r tk' L' ns nq => r = .ok .next ∧ tk' = tk ∧ L' = (zlL w.params x (zpO (x.its + 247) (x.own + 247)) (zlF w.params x) (liE x.k) (tup2 x.f x.ft x.g x.gt)).map Prod.snd ∧ ns = [] ∧ nq = []) ⟨rfl, rfl, rfl, rfl, rfl⟩
    refine start_ok H1.top (by have := hr.depth; change A.depth + 260 ≤ 990 at this; omega) (run_mn (w := w) (V := V0) (lv := 260) (by decide) hc3 hk3 hr H1 (fun r tk' L' ns nq h' g' hpp A2 => ?_) z3)
    obtain ⟨rfl, rfl, rfl, rfl, rfl⟩ := hpp
    have A3 := After.trans H A1 hf1 A2
    have hp' := fun tk' => hpost tk' x.y.el x.y.x.ep x.y.x.it (zlF w.params x) (zpO (x.its + 247) (x.own + 247)) (liE x.k) (lstO x.xs x.ep) (tup2 x.f x.ft x.g x.gt) (itO x.I) x.y.ls x.y.x.xs [] htx hac (Nat.zero_le _)
    rw [show Int.ofNat (chunks mx M v []).iv = x.y.x.iv from hiv.symm] at hp'
    exact hQ _ _ _ _ _ _ _ (hp' _) A3
  | cons y l ih =>
    obtain ⟨f, g⟩ := y
    intro v
    refine mkC_by fun x q gs tk post hp A Q h g0 dr os hr H hQ => ?_
    obtain ⟨hpv, rfl, hvf, hxs, hzo, htx, hac, hiv, hpost⟩ := hp
    obtain ⟨ft, gt, vs, hdr, hpv2⟩ := pairsV_cons hpv
    obtain ⟨hat1, hat2, hdr2⟩ := drop_at hdr
    rw [← hdr2] at hpv2
    obtain ⟨ds, τ2, hs, hds⟩ := hvf
    refine zip_step x (f := f) (g := g) (ft := ft) (gt := gt) (k := x.k) hr rfl H (fun n gz post1 h1 => zn1 w hat1 hat2 h1) (fun t n gz post3 h3 => ?_) hQ
    refine zb1 w (j := 3 * (l.length + 1)) (ih (chunkStep mx M v f g)) hM (List.mem_cons_of_mem _ hs) (List.mem_cons_of_mem _ hds) (List.mem_cons_self ..) ⟨ds, τ2, List.mem_cons_of_mem _ hs, List.mem_cons_of_mem _ hds⟩ hzo.vok htx (hac.more _) hiv hzo.chf
      (fun y => ⟨ds, τ2, List.mem_cons_of_mem _ (List.mem_cons_of_mem _ hs), List.mem_cons_of_mem _ (List.mem_cons_of_mem _ hds)⟩) hpv2 hxs hzo.step (fun _ _ _ _ _ _ h => h.1) (fun _ _ _ _ _ _ h => h.2.1) (fun _ _ _ _ _ _ h => h.2.2) ?_
    intro tn ft' tk' epl' ep' t' f' eo zo io po oo to ls' xs' nq h1 h2 h4
    refine h3 _ _ _ (hpost tk' epl' ep' t' eo zo io po oo to ls' xs' _ h1 ?_ takeL_len)
    have e : nq ++ ([(tn + 247, tup2 f' ft' g gt)] ++ ((t + 247, tup2 f ft g gt) :: q)) = (nq ++ [(tn + 247, tup2 f' ft' g gt), (t + 247, tup2 f ft g gt)]) ++ q := by simp
    rw [e] at h2 ⊢
    exact h2.take (by simp only [List.length_append, List.length_cons, List.length_nil]; omega)
end
end Mine

namespace Mine
open PySem PySem.W PySem.W.X
noncomputable section
theorem ctZip0_ok (w : World) {mx : Nat} {M : List Nat} (hM : MOk M) (v : VS) (l : List Pt) : CtOk w V0 (ctZip0 w.params mx M v l) := by
  refine mkC_by fun x q gs tk post hp A Q h g0 dr os hr H hQ => ?_
  obtain ⟨hpv, hne, rfl, hvf, hxs, hzo, htx, hac, hiv, hpost⟩ := hp
  have hr0 : Room 260 A := ⟨by have := hr.depth; change A.depth + 270 ≤ 990 at this; omega, by have := hr.units; change A.units + 5 * 270 ≤ 9700 at this; omega, hr.hd⟩
  obtain ⟨⟨f, g⟩, l, rfl⟩ := List.exists_cons_of_ne_nil hne
  obtain ⟨ft, gt, vs, hdr, hpv2⟩ := pairsV_cons hpv
  obtain ⟨hat1, hat2, hdr2⟩ := drop_at (k := 0) (xs := x.xs) (by rw [List.drop_zero]; exact hdr)
  rw [← hdr2] at hpv2
  obtain ⟨ds, τ2, hs, hds⟩ := hvf
  refine zip_step x (f := f) (g := g) (ft := ft) (gt := gt) (k := 0) hr0 rfl H (fun n gz post1 h1 => zn0 w hat1 hat2 h1) (fun t n gz post3 h3 => ?_) hQ
  refine zb0 w (j := 3 * (l.length + 1)) (ctZip_ok w hM l _) hM (List.mem_cons_of_mem _ hs) (List.mem_cons_of_mem _ hds) (List.mem_cons_self ..) ⟨ds, τ2, List.mem_cons_of_mem _ hs, List.mem_cons_of_mem _ hds⟩ hzo.vok htx (hac.more _) hiv hzo.chf
    (fun y => ⟨ds, τ2, List.mem_cons_of_mem _ (List.mem_cons_of_mem _ hs), List.mem_cons_of_mem _ (List.mem_cons_of_mem _ hds)⟩) hpv2 hxs hzo.step (fun _ _ _ _ _ _ h => h.1) (fun _ _ _ _ _ _ h => h.2.1) (fun _ _ _ _ _ _ h => h.2.2) ?_
  intro tn ft' tk' epl' ep' t' f' eo zo io po oo to ls' xs' nq h1 h2 h4
  refine h3 _ _ _ (hpost tk' epl' ep' t' eo zo io po oo to ls' xs' _ h1 ?_ takeL_len)
  have e : nq ++ ([(tn + 247, tup2 f' ft' g gt)] ++ ((t + 247, tup2 f ft g gt) :: q)) = (nq ++ [(tn + 247, tup2 f' ft' g gt), (t + 247, tup2 f ft g gt)]) ++ q := by simp
  rw [e] at h2 ⊢
  exact h2.take (by simp only [List.length_append, List.length_cons, List.length_nil]; omega)
end
end Mine

namespace Mine
open PySem PySem.W PySem.W.X
noncomputable section
noncomputable def AtS (xs : Array Value) (k : Int) (s : Str) : Prop := ∃ u, AtI xs k (.str s u)
noncomputable def ctGetT (s : Str) : Ct where
  lv := 4
  pre := fun c L q gs tk post => sRV nGet c L fun a vk xs F => kI vk fun k t => 0 ≤ k ∧ k < 1000000 ∧ AtS xs k s ∧ ∀ u : Nat, post (.ok (.ret (.str s u))) tk (L.map Prod.snd) [] []
theorem ctGetT_ok (w : World) (V : Vol) (s : Str) : CtOk w V (ctGetT s) := by
  intro c L q gs tk post hp A Q h g d os hr H hQ
  dsimp only [ctGetT] at hp
  replace hp := sRV_e "list.__getitem__" (by decide +kernel) hp
  obtain ⟨a', vk, kk, xs, rfl, rfl, hp⟩ := hp
  replace hp := kI_e hp
  obtain ⟨k, t, rfl, h0, hk, ⟨u, hx⟩, hp2⟩ := hp
  have ho := H.has _ (List.mem_cons_self ..)
  refine codeAny_builtin PySem.F.entry_list_getitem ?_
  show wpAny _ _ (Builtin.List.listSubscript? (.int k t) >>= _) _ _ _
  refine wpAny_bind (wpAny_listSubscript_int (fitsIndex_of h0 (by omega)) ?_)
  obtain ⟨j, rfl⟩ := Int.eq_ofNat_of_zero_le h0
  have hx' : xs[j]? = some (.str s u) := hx
  show wpAny _ _ ((seqItemAt a' j >>= fun r => pure (r.map (j, ·))) >>= _) _ _ _
  refine wpAny_bind (wpAny_bind (wpAny_seqItemAt ho rfl (wpAny_pure ?_)))
  rw [hx']
  first
    | exact wpAny_bind (wpAny_pure (wpAny_pure (hQ _ _ _ _ _ _ _ (hp2 u) H.same)))
    | exact wpAny_pure (hQ _ _ _ _ _ _ _ (hp2 u) H.same)
noncomputable def asC (P : Params) (x : Fm × Str × Nat × Str × Nat × Str × Nat) : Cl := fmC P 123 x.1 [.str x.2.1 x.2.2.1, .str x.2.2.2.1 x.2.2.2.2.1, .str x.2.2.2.2.2.1 x.2.2.2.2.2.2]
noncomputable def ctAscii (P : Params) (mx : Nat) (M : List Nat) (v : VS) (ws : List Str) : Ct := mkC 300 (fun c L _ => (fmS c L, vS (arg c 1), vT (arg c 1), vS (arg c 2), vT (arg c 2), vS (arg c 3), vT (arg c 3))) (asC P) fun x q gs tk post =>
  x.2.1 = S "" ∧ VfIn P (x.1.s + 247) (x.1.l + 247) (x.1.x.a + 247) (Int.ofNat mx) (scOf M) q ∧ fRe ws x.2.2.2.1 ∧ ZOk v (ptsOf ws) ∧ TextsOf x.1.ls v.lines ∧ AcOk (toP v.ps) x.1.x.xs q ∧ x.1.x.iv = Int.ofNat v.iv ∧ gs = [] ∧
    ∀ (tk' epl' ep' t' : Nat) (ls' xs' : Array Value) (nq : List (Nat × Obj)), TextsOf ls' (chunks mx M v (ptsOf ws)).lines → AcOk (toP (chunks mx M v (ptsOf ws)).ps) xs' (nq ++ q) → nq.length ≤ 60 →
      post (.ok (.ret .none)) tk' [lstO ls' epl', accO (x.1.x.d + 247) xs' ep', accD P x.1.x.kt (Int.ofNat (chunks mx M v (ptsOf ws)).iv) t'] [] nq
theorem cut_front (xs ys : Array Value) : cutIn xs none (some 0) ys = ys ++ xs := by
  unfold cutIn
  rw [sliceBounds_plain]
  simp [clipAt]
  have : (max 0 (min 0 (xs.size : Int))).toNat = 0 := by omega
  rw [this]
  simp
section
variable (w : World) {y : Fm} {q : List (Nat × Obj)} {tk n gz j : Nat} {post : Post} {ds : Nat} {τ : Nat → Nat} {mx : Nat} {M : List Nat} {v : VS} {ws : List Str} {x sc : Str} {ft xt st : Nat}
theorem asRun {a0 b0 : Nat} (hM : MOk M) (hs : (y.s + 247, vfO (ds + 247)) ∈ q) (hd : (ds + 247, vfD w.params τ (Int.ofNat mx) (scOf M) (y.l + 247) (y.x.a + 247)) ∈ q)
    (h1 : VfIn w.params (y.s + 247) (y.l + 247) (y.x.a + 247) (Int.ofNat mx) (scOf M) q) (h2 : fRe ws x) (h3 : TextsOf y.ls v.lines) (h4 : AcOk (toP v.ps) y.x.xs q) (h5 : y.x.iv = Int.ofNat v.iv) (h6 : ZOk v (ptsOf ws)) (h7 : ptsOf ws ≠ [])
    (g1 : ∀ xs : Array Value, (∀ t, PairsV (ptsOf ws) (.str (S "") t :: xs.toList)) → AtS xs 0 ⟨#[a0 + 33, b0 + 33]⟩)
    (g2 : ∀ (xs : Array Value) (t : Nat), (∀ t, PairsV (ptsOf ws) (.str (S "") t :: xs.toList)) → PairsV (ptsOf ws) (cutIn xs none (some 0) #[.str (S "") t]).toList)
    (g3 : ∀ (xs : Array Value) (t : Nat), xs.size ≤ 40 → (cutIn xs none (some 0) #[.str (S "") t]).size ≤ 60) (g4 : ∀ (xs : Array Value) (t : Nat), xs.size ≤ 40 → (cutIn xs none (some 0) #[.str (S "") t]).size ≤ 1000)
    (hq : ∀ (tk' epl' ep' t' : Nat) (ls' xs' : Array Value) (nq : List (Nat × Obj)), TextsOf ls' (chunks mx M v (ptsOf ws)).lines → AcOk (toP (chunks mx M v (ptsOf ws)).ps) xs' (nq ++ q) → nq.length ≤ 3 * (ptsOf ws).length →
      post (.ok (.ret .none)) tk' [lstO ls' epl', accO (y.x.d + 247) xs' ep', accD w.params y.x.kt (Int.ofNat (chunks mx M v (ptsOf ws)).iv) t'] [] ([] ++ takeL j (nq ++ q))) :
    Runs w V0 290 (asC w.params (y, S "", ft, x, xt, sc, st)).c (asC w.params (y, S "", ft, x, xt, sc, st)).L q [] tk n gz post := by
  obtain ⟨s, l, ls, el, ⟨a, d, xs1, ep1, kt, iv, it⟩⟩ := y
  have z1 : ∀ v : Value, #[v].size ≤ 1000000 := fun _ => Nat.le_of_ble_eq_true rfl
  have z2 : ∀ u v : Value, #[u, v].size ≤ 1000 := fun _ _ => Nat.le_of_ble_eq_true rfl
  have i0 : (0 : Int) ≤ 0 := Int.le_refl 0
  have i1 : (0 : Int) < 1000000 := by decide
  have z3 : (#[] : Array Value).size ≤ 1000 := Nat.zero_le _
  exact .go1 (subC hs (subC hd sub0)) (cC (ctSplit_ok w V0 ws) <| cC (ctGetT_ok w V0 ⟨#[a0 + 33, b0 + 33]⟩) <| cC (ctSetS_ok w V0) <| cC (ctIaddL_ok w V0) <| c1 (ctZip0_ok w (mx := mx) hM v (ptsOf ws))) [0,5,5,5,5,5,5,5,5,0,1,0,0,0,0,0,5,5,0,0,0,0,2,0,0,5,5,5,6,6,6,0,6,2,1,1,4,0,0,0,5,6,6,0,6,2,2,3,4,6,5,0,0,0,0,5,0,0,6,6,0,6,0,9,10,0,0,10,10,0,10,0,10,11,0,2,3,2,10,9,12,0,0,0,0,9,9,0,9,0,9,9,9,0,9,0,9,15,15,0,15,0,15,15,15,0,15,0,15,2,4,9,13,3,7,4,12,0,1,2,11] [] [] j (by kernel_rfl) (by kernel_rfl) (ai (r7 [n,n,n,n,n,n,n,n,n,n]) (ai (rf (spC ((x, xt)))) (ai h2 (fun (n1 : Nat) (tk' : Nat) (xs : Array Value) (x1 : xs.size ≤ 40) (x2 : ∀ (t : Tok), PairsV (ptsOf ws) (Value.str (S "") t :: xs.toList)) => fun (n' gz' : Nat) => ai (r7 [n1,n1,n1,n1,n,n,n]) (ai (rf (n1 + 247)) (ai i0 (ai i1 (ai (g1 xs x2) (fun (u n'1 gz'1 : Nat) => ai (r7 [n1,n1,n1,n]) (ai (rf (n1 + 247)) (ai (rf (n'1 + 248)) (ai (rf (n'1 + 247)) (ai (by omega : xs.size ≤ 1000000) (ai (z1 (Value.str (Str.ofString "") (tk' + 4))) (fun (ep' n'2 gz'2 : Nat) => ai (r7 [n'2 + 2,n'2 + 1,n'2 + 1,n'2 + 1,n'2 + 1,n'2 + 1,n'2,n1,n1,n1,n]) (ai (rf (n'2 + 250)) (ai (rf (n'2 + 249)) (ai z3 (ai (z2 (Value.ref (n'2 + 247)) (Value.ref (n'2 + 247))) (fun (ep'1 n'3 gz'3 : Nat) => ai (r7 [n'3 + 2,n'3 + 2,n'3 + 2,n'3 + 2,n'3 + 2,n'3 + 2,n'3 + 2,n'3 + 2,n'2,n'2,n'2,n'2,n'2,n'2,n'2,n'2,n'2 + 3]) (ai (rf (zl0 w.params (⟨n'3 + 2, n, n'2, n1, n'3 + 1, n'3, cutIn xs none (some 0) #[Value.str (Str.ofString "") (tk' + 4)], ep', ⟨s, l, ls, el, ⟨a, d, xs1, ep1, kt, iv, it⟩⟩, S "", x, sc, S "", [tk, tk + 1, ft, tk + 2, xt, tk + 3, st, tk', 0, 0], 5, 0, S "", S "", 0, 0, S "_ValueFormatter._ascii_split.<locals>.", some 123, Value.ref 122, some (n + 247)⟩))) (ai (g2 xs (tk' + 1 + 1 + 1 + 1) x2) (ai h7 (ai (rf ([] : List (Nat × Code))) (ai h1 (ai (g3 xs (tk' + 4) x1) (ai h6 (ai h3 (ai h4 (ai h5 (fun (tk'1 : Nat) (epl' : Nat) (ep'2 : Nat) (t' : Nat) (eo : Obj) (zo : Obj) (io : Obj) (po : Obj) (oo : Obj) (to : Obj) (ls' : Array Value) (xs' : Array Value) (nq : List (Nat × Obj)) (x3 : TextsOf ls' (chunks mx M v (ptsOf ws)).lines) => fun (x4 : AcOk (toP (chunks mx M v (ptsOf ws)).ps) xs' (nq ++ q)) => fun (x5 : nq.length ≤ 3 * (ptsOf ws).length) (n'4 gz'4 : Nat) => ai (r7 []) (hq tk'1 epl' ep'2 t' ls' xs' nq x3 x4 x5))))))))))))))))))))))))))))))))
end
end
end Mine

namespace Mine
open PySem PySem.W PySem.W.X
noncomputable section
theorem ctAscii_ok (w : World) {mx : Nat} {M : List Nat} (hM : MOk M) (v : VS) (ws : List Str) : CtOk w V0 (ctAscii w.params mx M v ws) := mkC_ok 290 rfl fun x q gs tk post h n gz => by
  obtain ⟨y, f, ft, x, xt, sc, st⟩ := x
  obtain ⟨hf, hv, hre, hzo, htx, hac, hiv, rfl, hq⟩ := h
  obtain rfl : f = S "" := hf
  have hv0 := hv
  obtain ⟨ds, τ, hs, hds⟩ := hv0
  obtain ⟨w0, wr, rfl⟩ : ∃ w0 wr, ws = w0 :: wr := by
    cases hws : ws with
    | nil => have := hre.2.1; rw [hws] at this; exact absurd this (by decide)
    | cons w0 wr => exact ⟨w0, wr, rfl⟩
  obtain ⟨a0, b0, hab⟩ := hre.2.2.2 w0 (List.mem_cons_self ..)
  have hlen : wr.length + 1 ≤ 14 := hre.2.2.1
  have hcz : ∀ (xs : Array Value) (t : Nat), (cutIn xs none (some 0) #[.str (S "") t]).size = 1 + xs.size := fun xs t => by rw [cut_front, Array.size_append]; rfl
  refine asRun w (j := 60) hM hs hds hv hre htx hac hiv hzo (fun h => nomatch h) (a0 := a0) (b0 := b0) (fun xs h => ?_) (fun xs t h => ?_) (fun xs t h => by rw [hcz]; omega) (fun xs t h => by rw [hcz]; omega) fun tk' epl' ep' t' ls' xs' nq h1 h2 h3 => ?_
  · obtain ⟨ft, gt, vs, e1, _⟩ := pairsV_cons (h 0)
    injection e1 with _ e2
    refine ⟨gt, ?_⟩
    unfold AtI
    rw [← Array.getElem?_toList, e2, ← hab]
    rfl
  · rw [cut_front]
    simpa using h t
  · exact hq tk' epl' ep' t' ls' xs' _ h1 (h2.take (by have : (ptsOf (w0 :: wr)).length = wr.length + 1 := by simp [ptsOf]
                                                       omega)) takeL_len
end
end Mine

namespace Mine
open PySem PySem.W PySem.W.X
noncomputable section
noncomputable def anC (x : Int × Nat) : Cl := ⟨.call (.ref 217) ⟨[.int x.1 x.2], []⟩, []⟩
noncomputable def ctAccNew (P : Params) : Ct := mkC 70 (fun c _ _ => (vI (arg c 0), vT (arg c 0))) anC fun x q gs tk post =>
  gs = [] ∧ ∀ n tk' kt : Nat, post (.ok (.ret (.ref (n + 248)))) tk' [] [(n + 247, accD P kt x.1 x.2), (n + 248, accO (n + 247) #[] 0)] []
theorem ctAccNew_ok (w : World) (V : Vol) : CtOk w V (ctAccNew w.params) := mkC_ok 60 rfl fun x q gs tk post h n gz => by
  obtain ⟨hd, t⟩ := x
  obtain ⟨rfl, hq⟩ := h
  exact .go1 sub0 c0 [0,0,0,0,0,0,0,0,0,0,0,0,0,0,0,0,0,0,0,0,3,0,3,0,0,0,0,1,0,0,4,4,4,4,0,1,4,4,3,0,0,0,0,3,0,0,3,0,3,0,0,0,3,0,2,2,2,0,0,0,0,0,4,0,0,0,0,0,0,5,5,0,5,0,0,3,3,0,5,5,5,5,5,5,5,5,0,5,0,5,5,5,0,0,0,0,3,0,6,0,6,0,3,3,3,3] [0, 1] [] 0 (by kernel_rfl) (by kernel_rfl) (ai (r7 []) (fun (p : Pos) (rest : List (Code × Pos)) => ai (r7 [n + 1,n + 1,n + 1,n + 1,n + 4,n + 4,n + 1,n + 3,n + 3,n + 3,n + 3,n + 3,n + 3,n + 3,n + 3,n + 3,n + 3,n + 3,n + 3,n + 1,n + 1,n + 3,n + 3,n + 3,n + 2,n,n,n,n + 1,n + 1,n + 1,n + 1,n + 1,n + 2,n + 2,n + 2,n + 2,n + 2,n + 2,n + 1,n + 1]) (hq n (tk + 5) (tk + 3))))
noncomputable def vnC (x : Int × Nat × Int × Nat × Nat × Str × Nat) : Cl := ⟨.call (.ref 133) ⟨[.int x.1 x.2.1, .int x.2.2.1 x.2.2.2.1, .str (S " ") x.2.2.2.2.1, .str x.2.2.2.2.2.1 x.2.2.2.2.2.2], []⟩, []⟩
noncomputable def ctVf (P : Params) : Ct := mkC 140 (fun c _ _ => (vI (arg c 0), vT (arg c 0), vI (arg c 1), vT (arg c 1), vT (arg c 2), vS (arg c 3), vT (arg c 3))) vnC fun x q gs tk post =>
  gs = [] ∧ ∀ (s e l a d tk' kt : Nat) (τ : Nat → Nat), post (.ok (.ret (.ref (s + 247)))) tk' [] [(l + 247, lstO #[] 0), (a + 247, accO (d + 247) #[] 0), (d + 247, accD P kt x.1 x.2.1)] [(s + 247, vfO (e + 247)), (e + 247, vfD P τ x.2.2.1 x.2.2.2.2.2.1 (l + 247) (a + 247))]
noncomputable def tfn (l : List Nat) (n : Nat) : Nat := match nth l n with
  | some x => x
  | none => 0
theorem ctVf_ok (w : World) (V : Vol) : CtOk w V (ctVf w.params) := mkC_ok 130 rfl fun x q gs tk post h n gz => by
  obtain ⟨hd, t, mx, u, v, sc, x⟩ := x
  obtain ⟨rfl, hq⟩ := h
  have hq' : ∀ (s e l a d tk' kt t0 t1 t2 t3 t4 t5 t6 t7 t8 t9 : Nat), post (.ok (.ret (.ref (s + 247)))) tk' [] [(l + 247, lstO #[] 0), (a + 247, accO (d + 247) #[] 0), (d + 247, accD w.params kt hd t)] [(s + 247, vfO (e + 247)), (e + 247, { cls := .type "dict", data := .dict #[eZ w.params "_maxlen" t0 (.int mx t1), eZ w.params "_continuation_ws" t2 (.str (S " ") t3), eZ w.params "_continuation_ws_len" t4 (.int 1 t5), eZ w.params "_splitchars" t6 (.str sc t7), eZ w.params "_lines" t8 (.ref (l + 247)), eZ w.params "_current_line" t9 (.ref (a + 247))] 6 })] := fun s e l a d tk' kt t0 t1 t2 t3 t4 t5 t6 t7 t8 t9 => hq s e l a d tk' kt (tfn [t0, t1, t2, t3, t4, t5, t6, t7, t8, t9])
  exact .go1 sub0 (c1 (ctAccNew_ok w V)) [0,0,0,0,0,0,0,0,0,0,0,0,0,0,0,0,0,0,0,0,0,0,0,0,0,0,0,0,0,0,3,0,3,0,0,0,0,1,0,4,4,4,4,4,4,4,4,4,4,0,0,4,4,3,0,0,0,0,3,0,0,3,0,3,0,0,0,3,0,2,2,2,4,4,3,0,0,0,0,3,0,0,3,0,3,0,0,0,3,0,2,2,2,0,0,4,0,0,0,0,4,3,0,0,0,0,3,0,0,3,0,3,0,0,0,3,0,2,2,2,4,4,3,0,0,0,0,3,0,0,3,0,3,0,0,0,3,0,2,2,2,4,3,0,0,0,0,3,0,0,3,0,3,0,0,0,3,0,2,2,2,0,4,0,0,2,0,0,4,3,0,0,0,0,3,0,0,3,0,3,0,0,0,3,0,2,2,2] [3, 5, 4] [1, 0] 0 (by kernel_rfl) (by kernel_rfl) (ai (r7 [n + 2,n,n,n,n + 1,n + 1,n + 1,n + 1,n + 1,n + 2,n,n,n,n + 1,n + 1,n + 1,n + 1,n + 1,n + 2,n + 2,n,n,n,n + 1,n + 1,n + 1,n + 1,n + 1,n + 2,n + 2,n,n,n,n + 1,n + 1,n + 1,n + 1,n + 1,n + 2,n + 2,n,n,n,n + 1,n + 1,n + 1,n + 1,n + 1,n + 2,n + 2,n + 2,n + 2,n + 2,n + 2,n + 2,n + 2,n + 2,n + 2,n + 2,n + 2,n + 1,n + 1]) (ai (rf (anC ((hd, t)))) (ai (rf ([] : List (Nat × Code))) (fun (n1 tk' kt n' gz' : Nat) => ai (r7 [n,n,n,n + 1,n + 1,n + 1,n + 1,n + 1,n + 2]) (hq' (n + 1) n (n + 3) (n1 + 1) n1 (tk' + 2) kt (tk + 6) u (tk + 8) v (tk + 12) (tk + 10) (tk + 14) x (tk + 16) (tk' + 1))))))
theorem textsOf_values (l : List (Str × Tok)) : TextsOf (strValues l).toArray (l.map (·.1)) := by
  refine ⟨l.map (·.2), by simp, ?_⟩
  congr 1
  unfold strValues
  induction l with
  | nil => rfl
  | cons p l ih => simp only [List.map_cons, List.zipWith_cons_cons, ih]
theorem values_of_texts {xs : Array Value} {l : List Str} (h : TextsOf xs l) : ∃ l' : List (Str × Tok), xs = (strValues l').toArray ∧ l'.map (·.1) = l := by
  obtain ⟨ts, h1, rfl⟩ := h
  refine ⟨l.zip ts, ?_, by rw [List.map_fst_zip]; omega⟩
  congr 1
  unfold strValues
  rw [List.zip, List.map_zipWith]
noncomputable def SplitTo (x y : Str) (l : List Str) : Prop := y.length = 1 ∧ x.length ≤ 1000000 ∧ Txt.split x y = l
noncomputable def ssC (x : Str × Nat × Str × Nat) : Cl := ⟨.builtin "str.split" ⟨[.str x.1 x.2.1, .str x.2.2.1 x.2.2.2], []⟩, []⟩
noncomputable def ctSplitS (l : List Str) : Ct := mkC 4 (fun c _ _ => (vS (arg c 0), vT (arg c 0), vS (arg c 1), vT (arg c 1))) ssC fun x q gs tk post =>
  SplitTo x.1 x.2.2.1 l ∧ ∀ (n tk' : Nat) (xs : Array Value), TextsOf xs l → post (.ok (.ret (.ref (n + 247)))) tk' [] [(n + 247, lstO xs 0)] []
theorem parts_few (x y : Str) : (Builtin.Str.partsBetween x (Builtin.Str.occurrences x y 0 x.length (x.length + 1)) y.length).length ≤ x.length + 2 := by
  rw [length_partsBetween]
  have := StrLaws.occ_length_le x y 0 x.length (x.length + 1)
  omega
theorem ctSplitS_ok (w : World) (V : Vol) (l : List Str) : CtOk w V (ctSplitS l) := mkC_by fun x q gs tk post hp A Q h g d os hr H hQ => by
  obtain ⟨x, t, y, u⟩ := x
  obtain ⟨⟨hy1, hx, hl⟩, hp⟩ := hp
  have hy : (y.length == 0) = false := by rw [show y.length = 1 from hy1]; rfl
  change x.length ≤ 1000000 at hx
  change Txt.split x y = l at hl
  subst hl
  refine codeAny_builtin PySem.F.entry_str_split ?_
  rw [Around.under_plainId (by decide +kernel) _]
  have fin : ∀ l : List (Str × Tok), l.map (·.1) = Txt.split x y → ∀ tk', Q (.ok (.ret (.ref h.objs.size))) ⟨h.push (lstO (strValues l).toArray 0), g, d, tk', os⟩ := fun l hl tk' => by
    have hr' := hp (h.objs.size - 247) tk' (strValues l).toArray (by rw [← hl]; exact textsOf_values l)
    rw [Nat.sub_add_cancel H.big] at hr'
    exact hQ _ _ _ _ _ _ _ hr' (H.push rfl)
  have h24 : sizeLine = 16777216 := rfl
  cases h1 : (decide (x.length < y.length) || decide (Builtin.Str.strKind x < Builtin.Str.strKind y))
  · cases hf : (Builtin.Str.occurrences x y 0 x.length (x.length + 1)).isEmpty
    · refine meets_str_split_sep x y t u h1 hy hf (by omega) (by have := parts_few x y; omega) PW w A Q _ ?_
      show Q _ ⟨h.push { cls := .type "list", data := .seq (strsFrom tk (Builtin.Str.partsBetween x (Builtin.Str.occurrences x y 0 x.length (x.length + 1)) y.length)).toArray }, g, d, _, os⟩
      rw [strsFrom_eq]
      exact fin (numbered tk _) ((numbered_texts _ _).trans ((if_neg (ne_true_of_eq_false h1)).trans (if_neg (ne_true_of_eq_false hf))).symm) _
    · exact meets_str_split_not_found x y t u h1 hy hf PW w A Q _ (fin [(x, t)] ((if_neg (ne_true_of_eq_false h1)).trans (if_pos hf)).symm _)
  · exact meets_str_split_cannot_occur x y t u h1 PW w A Q _ (fin [(x, t)] (if_pos h1).symm _)
noncomputable def JoinTo (sep : Str) (ls : List Str) (z : Str) : Prop := JoinOk sep ls = true ∧ (Txt.join sep ls).length ≤ 1000000 ∧ Txt.join sep ls = z
noncomputable def jlC (x : Str × Nat × Nat × Array Value × Nat) : Cl := ⟨.builtin "str.join" ⟨[.str x.1 x.2.1, .ref (x.2.2.1 + 247)], []⟩, [(x.2.2.1 + 247, lstO x.2.2.2.1 x.2.2.2.2)]⟩
noncomputable def ctJoinL (ls : List Str) (z : Str) : Ct := mkC 4 (fun c L _ => (vS (arg c 0), vT (arg c 0), lA L 0, oSeq (lO L 0), oEp (lO L 0))) jlC fun x q gs tk post =>
  TextsOf x.2.2.2.1 ls ∧ JoinTo x.1 ls z ∧ ∀ t tk' : Nat, post (.ok (.ret (.str z t))) tk' [lstO x.2.2.2.1 x.2.2.2.2] [] []
theorem ctJoinL_ok (w : World) (V : Vol) (ls : List Str) (z : Str) : CtOk w V (ctJoinL ls z) := mkC_by fun x q gs tk post hp A Q h g d os hr H hQ => by
  obtain ⟨sep, t, a', xs, ep⟩ := x
  obtain ⟨htx, ⟨hj, hjl, hz⟩, hp⟩ := hp
  change TextsOf xs ls at htx
  change Txt.join sep ls = z at hz
  subst hz
  obtain ⟨l, rfl, hl⟩ := values_of_texts htx
  have hh := H.has _ (List.mem_cons_self ..)
  refine codeAny_builtin PySem.F.entry_str_join ?_
  rw [Around.under_plainId (by decide +kernel) _]
  refine meets_str_join_list sep t (a' + 247) l (by rw [hl]; simpa [JoinOk] using hj) PW w A Q _ ⟨?_, ?_⟩
  · exact ⟨_, hh, rfl, _, rfl⟩
  · subst hl
    unfold joinMade
    split
    · exact hQ _ _ _ _ _ _ _ (hp _ _) H.same
    · exact ⟨Nat.le_trans hjl (by decide), hQ _ _ _ _ _ _ _ (hp _ _) H.same⟩
noncomputable def AddTo (a b z : Str) : Prop := a.length ≠ 0 ∧ b.length ≠ 0 ∧ a.length + b.length ≤ 1000 ∧ a ++ b = z
noncomputable def adC (x : Str × Nat × Str × Nat) : Cl := ⟨.builtin "str.__add__" ⟨[.str x.1 x.2.1, .str x.2.2.1 x.2.2.2], []⟩, []⟩
noncomputable def ctAdd (z : Str) : Ct := mkC 4 (fun c _ _ => (vS (arg c 0), vT (arg c 0), vS (arg c 1), vT (arg c 1))) adC fun x q gs tk post =>
  AddTo x.1 x.2.2.1 z ∧ post (.ok (.ret (.str z tk))) (tk + 1) [] [] []
theorem ctAdd_ok (w : World) (V : Vol) (z : Str) : CtOk w V (ctAdd z) := mkC_by fun x q gs tk post hp A Q h g d os hr H hQ => by
  obtain ⟨a, t, b, u⟩ := x
  obtain ⟨⟨ha, hb, hl, rfl⟩, hp⟩ := hp
  change a.length ≠ 0 at ha
  change b.length ≠ 0 at hb
  change a.length + b.length ≤ 1000 at hl
  refine codeAny_builtin PySem.F.entry_str_add ?_
  rw [Around.under_plainId (by decide +kernel) _]
  have z := gives_str_add a b t u
  rw [if_neg (by simpa using ha), if_neg (by simpa using hb)] at z
  have h24 : sizeLine = 16777216 := rfl
  exact z PW w A Q _ ⟨by rw [Str.length_append]; omega, hQ _ _ _ _ _ _ _ hp H.same⟩
theorem free_split {c : Nat} : ∀ {a b r s : List Nat}, c ∉ a → c ∉ b → a ++ c :: r = b ++ c :: s → a = b ∧ r = s
  | [], [], r, s, _, _, h => ⟨rfl, (List.cons.inj h).2⟩
  | [], y :: b, r, s, _, hb, h => by
    have := (List.cons.inj h).1
    subst this
    exact absurd (List.mem_cons_self ..) hb
  | x :: a, [], r, s, ha, _, h => by
    have := (List.cons.inj h).1
    subst this
    exact absurd (List.mem_cons_self ..) ha
  | x :: a, y :: b, r, s, ha, hb, h => by
    obtain ⟨h1, h2⟩ := List.cons.inj h
    subst h1
    obtain ⟨e1, e2⟩ := free_split (fun z => ha (List.mem_cons_of_mem _ z)) (fun z => hb (List.mem_cons_of_mem _ z)) h2
    exact ⟨by rw [e1], e2⟩
theorem join_cons2 (sep x y : Str) (l : List Str) : (Str.join sep (x :: y :: l)).cps.toList = x.cps.toList ++ (sep.cps.toList ++ (Str.join sep (y :: l)).cps.toList) := by
  show ((x.cps ++ sep.cps) ++ (Str.join sep (y :: l)).cps).toList = _
  simp
theorem str_ext {a b : Str} (h : a.cps.toList = b.cps.toList) : a = b := by
  cases a; cases b
  simp only [Str.mk.injEq]
  exact Array.ext' h
theorem join_inj {c : Nat} : ∀ {A B : List Str}, (∀ x ∈ A, c ∉ x.cps.toList) → (∀ x ∈ B, c ∉ x.cps.toList) → A ≠ [] → B ≠ [] → Str.join ⟨#[c]⟩ A = Str.join ⟨#[c]⟩ B → A = B
  | [], _, _, _, h, _, _ => absurd rfl h
  | _, [], _, _, _, h, _ => absurd rfl h
  | [x], [y], _, _, _, _, h => by rw [show x = y from h]
  | [x], y :: y' :: B, hA, _, _, _, h => by
    have e := congrArg (fun z : Str => z.cps.toList) h
    simp only [join_cons2] at e
    exfalso
    refine hA x (List.mem_singleton.mpr rfl) ?_
    rw [show x.cps.toList = y.cps.toList ++ ([c] ++ (Str.join ⟨#[c]⟩ (y' :: B)).cps.toList) from e]
    simp
  | x :: x' :: A, [y], _, hB, _, _, h => by
    have e := congrArg (fun z : Str => z.cps.toList) h
    simp only [join_cons2] at e
    exfalso
    refine hB y (List.mem_singleton.mpr rfl) ?_
    rw [show y.cps.toList = x.cps.toList ++ ([c] ++ (Str.join ⟨#[c]⟩ (x' :: A)).cps.toList) from e.symm]
    simp
  | x :: x' :: A, y :: y' :: B, hA, hB, _, _, h => by
    have e := congrArg (fun z : Str => z.cps.toList) h
    simp only [join_cons2] at e
    obtain ⟨e1, e2⟩ := free_split (c := c) (hA x (List.mem_cons_self ..)) (hB y (List.mem_cons_self ..)) (show x.cps.toList ++ c :: (Str.join ⟨#[c]⟩ (x' :: A)).cps.toList = y.cps.toList ++ c :: (Str.join ⟨#[c]⟩ (y' :: B)).cps.toList from e)
    rw [str_ext e1, join_inj (fun z hz => hA z (List.mem_cons_of_mem _ hz)) (fun z hz => hB z (List.mem_cons_of_mem _ hz)) (by simp) (by simp) (str_ext e2)]
theorem split_ne (x y : Str) : Txt.split x y ≠ [] := by
  unfold Txt.split
  split
  · simp
  · split
    · simp
    · intro h
      have := congrArg List.length h
      rw [length_partsBetween] at this
      simp at this
theorem split_join {c : Nat} {l : List Str} (hl : l ≠ []) (h : ∀ x ∈ l, c ∉ x.cps.toList) : Txt.split (Txt.join ⟨#[c]⟩ l) ⟨#[c]⟩ = l := by
  refine join_inj (c := c) (StrLaws.split_free _ c) h (split_ne _ _) hl ?_
  rw [StrLaws.join_split]
  exact StrLaws.glued_eq_join _ _
end
end Mine

namespace Mine
open PySem PySem.W PySem.W.X
noncomputable def Okc (c : Nat) : Prop := c = 32 ∨ (33 ≤ c ∧ c < 127)
noncomputable def OkS (x : Str) : Prop := ∀ c ∈ x.cps.toList, Okc c
theorem join_empty_toList : ∀ l : List Str, (Str.join Str.empty l).cps.toList = (l.map fun x => x.cps.toList).flatten
  | [] => rfl
  | [x] => by simp [Str.join]
  | x :: y :: l => by
    rw [join_cons2, join_empty_toList (y :: l)]
    simp [Str.empty]
theorem ptext_toList (l : List Pt) : (ptext l).cps.toList = (l.map fun x => x.1.cps.toList ++ x.2.cps.toList).flatten := by
  unfold ptext
  rw [show Txt.join Str.empty (l.map fun x => x.1 ++ x.2) = Str.join Str.empty (l.map fun x => x.1 ++ x.2) from StrLaws.glued_eq_join _ _, join_empty_toList, List.map_map]
  congr 1
  apply List.map_congr_left
  intro x _
  show (x.1.cps ++ x.2.cps).toList = _
  simp
theorem ptext_len (l : List Pt) : (ptext l).length = ptot l := by
  show (ptext l).cps.size = _
  rw [← Array.length_toList, ptext_toList]
  unfold ptot
  rw [List.length_flatten, List.map_map]
  congr 1
  apply List.map_congr_left
  intro x _
  show (x.1.cps.toList ++ x.2.cps.toList).length = x.1.cps.size + x.2.cps.size
  simp
theorem ptext_ok {l : List Pt} (h : ∀ x ∈ l, OkS x.1 ∧ OkS x.2) : OkS (ptext l) := fun c hc => by
  rw [ptext_toList, List.mem_flatten] at hc
  obtain ⟨s, hs, hc⟩ := hc
  obtain ⟨x, hx, rfl⟩ := List.mem_map.mp hs
  rcases List.mem_append.mp hc with hc | hc
  · exact (h x hx).1 c hc
  · exact (h x hx).2 c hc
structure LOk (v : VS) : Prop where
  chars : ∀ x ∈ v.lines, OkS x
  short : ∀ x ∈ v.lines, x.length ≤ 100
  parts : ∀ x ∈ v.ps, OkS x.1 ∧ OkS x.2
theorem okS_blank : OkS (S " ") := fun c hc => .inl (by
  have : (S " ").cps.toList = [32] := by decide +kernel
  rw [this] at hc
  exact List.mem_singleton.mp hc)
theorem okS_empty : OkS (S "") := fun c hc => by
  have : (S "").cps.toList = [] := by decide +kernel
  rw [this] at hc
  cases hc
theorem LOk.step {mx : Nat} {M : List Nat} {v : VS} {x : Pt} {l : List Pt} (h : LOk v) (hz : ZOk v (x :: l)) (hx : OkS x.1 ∧ OkS x.2) : LOk (chunkStep mx M v x.1 x.2) := by
  have hall : ∀ y ∈ v.ps ++ [(x.1, x.2)], OkS y.1 ∧ OkS y.2 := fun y hy => by
    rcases List.mem_append.mp hy with hy | hy
    · exact h.parts y hy
    · rw [List.mem_singleton.mp hy]; exact hx
  have hpt : ∀ y ∈ v.ps ++ [(x.1, x.2)], PtOk y := fun y hy => by
    rcases List.mem_append.mp hy with hy | hy
    · exact hz.ps y hy
    · rw [List.mem_singleton.mp hy]; exact hz.all x (List.mem_cons_self ..)
  unfold chunkStep
  split
  · exact ⟨h.chars, h.short, hall⟩
  · split
    · refine ⟨fun y hy => ?_, fun y hy => ?_, fun y hy => ?_⟩
      · rcases List.mem_append.mp hy with hy | hy
        · exact h.chars y hy
        · rw [List.mem_singleton.mp hy]; exact okS_empty
      · rcases List.mem_append.mp hy with hy | hy
        · exact h.short y hy
        · rw [List.mem_singleton.mp hy]; decide
      · rw [List.mem_singleton.mp hy]; exact ⟨okS_blank, hx.2⟩
    · refine ⟨fun y hy => ?_, fun y hy => ?_, fun y hy => hall y (List.mem_of_mem_drop hy)⟩
      · rcases List.mem_append.mp hy with hy | hy
        · exact h.chars y hy
        · rw [List.mem_singleton.mp hy]
          exact ptext_ok fun z hz => hall z (List.mem_of_mem_take hz)
      · rcases List.mem_append.mp hy with hy | hy
        · exact h.short y hy
        · rw [List.mem_singleton.mp hy, ptext_len]
          have h1 := ptot_le (l := (v.ps ++ [(x.1, x.2)]).take (cutAt M (v.ps ++ [(x.1, x.2)]) v.ps.length)) fun z hz => hpt z (List.mem_of_mem_take hz)
          have h2 : ((v.ps ++ [(x.1, x.2)]).take (cutAt M (v.ps ++ [(x.1, x.2)]) v.ps.length)).length ≤ v.ps.length + 1 := by
            rw [List.length_take, List.length_append]; simp only [List.length_cons, List.length_nil]; omega
          have h3 := hz.len
          simp only [List.length_cons] at h3
          omega
theorem chunks_ok {mx : Nat} {M : List Nat} : ∀ {l : List Pt} {v : VS}, LOk v → ZOk v l → (∀ x ∈ l, OkS x.1 ∧ OkS x.2) → LOk (chunks mx M v l) ∧ ZOk (chunks mx M v l) []
  | [], v, h, hz, _ => ⟨h, hz⟩
  | x :: l, v, h, hz, hx => chunks_ok (l := l) (h.step hz (hx x (List.mem_cons_self ..))) hz.step fun y hy => hx y (List.mem_cons_of_mem _ hy)
theorem chunks_ne {mx : Nat} {M : List Nat} : ∀ {l : List Pt} {v : VS}, l ≠ [] → (chunks mx M v l).ps ≠ []
  | [], _, h => absurd rfl h
  | [x], v, _ => chunk_ne
  | x :: y :: l, v, _ => chunks_ne (l := y :: l) (v := chunkStep mx M v x.1 x.2) (by simp)
theorem okc_space : ∀ c : Fin 127, 33 ≤ c.val → Unicode.isSpace c.val = false := by decide +kernel
theorem not_space {l : List Pt} {x : Pt} (hx : x ∈ l) (h : ∀ c ∈ x.2.cps.toList, 33 ≤ c ∧ c < 127) (hne : x.2.cps.toList ≠ []) : Txt.isspace (ptext l) = false := by
  show (decide ((ptext l).length > 0) && (ptext l).cps.all Unicode.isSpace) = false
  rw [Bool.and_eq_false_iff]
  right
  rw [← Array.all_toList, List.all_eq_false]
  obtain ⟨c, r, hc⟩ := List.exists_cons_of_ne_nil hne
  have hc' : c ∈ x.2.cps.toList := by rw [hc]; exact List.mem_cons_self ..
  refine ⟨c, ?_, ?_⟩
  · rw [ptext_toList, List.mem_flatten]
    exact ⟨_, List.mem_map_of_mem hx, List.mem_append_right _ hc'⟩
  · have := h c hc'
    rw [okc_space ⟨c, this.2⟩ this.1]
    decide
noncomputable def foldOf (hd mx : Nat) (M : List Nat) (ws : List Str) : List Str :=
  (chunks mx M ⟨[], [], hd⟩ (ptsOf ws)).lines ++ [ptext (chunks mx M ⟨[], [], hd⟩ (ptsOf ws)).ps]
noncomputable def WvOk (x : Str) : Prop := ∃ a b, x = ⟨#[a, b]⟩ ∧ (33 ≤ a ∧ a < 127) ∧ (33 ≤ b ∧ b < 127)
theorem WvOk.wd {x : Str} (h : WvOk x) : WdOk x := by
  obtain ⟨a, b, rfl, h1, h2⟩ := h
  exact ⟨a - 33, b - 33, by rw [Nat.sub_add_cancel h1.1, Nat.sub_add_cancel h2.1]⟩
theorem WvOk.ok {x : Str} (h : WvOk x) : OkS x := by
  obtain ⟨a, b, rfl, h1, h2⟩ := h
  intro c hc
  have : c = a ∨ c = b := by simpa using hc
  rcases this with rfl | rfl
  · exact .inr h1
  · exact .inr h2
theorem zok_start {hd : Nat} (h0 : 0 < hd) (h1 : hd ≤ 100) {ws : List Str} (hw : ∀ x ∈ ws, WvOk x) (hl : ws.length ≤ 14) : ZOk ⟨[], [], hd⟩ (ptsOf ws) ∧ ∀ x ∈ ptsOf ws, OkS x.1 ∧ OkS x.2 := by
  cases ws with
  | nil => exact ⟨⟨by simp [ptsOf], by simp [ptsOf], (fun x hx => nomatch hx), h1, (fun x hx => nomatch hx), (fun x hx => nomatch hx), (fun x hx => nomatch hx)⟩, (fun x hx => nomatch hx)⟩
  | cons w0 ws =>
    have hlen : (ptsOf (w0 :: ws)).length = ws.length + 1 := by simp [ptsOf]
    have hmem : ∀ x ∈ ptsOf (w0 :: ws), (x.1 = S "" ∨ x.1 = S " ") ∧ WvOk x.2 := fun x hx => by
      rcases List.mem_cons.mp hx with rfl | hx
      · exact ⟨.inl rfl, hw _ (List.mem_cons_self ..)⟩
      · obtain ⟨y, hy, rfl⟩ := List.mem_map.mp hx
        exact ⟨.inr rfl, hw y (List.mem_cons_of_mem _ hy)⟩
    simp only [List.length_cons] at hl
    refine ⟨⟨by rw [hlen]; simp; omega, by rw [hlen]; simp; omega, (fun x hx => nomatch hx), h1, fun x hx => ⟨?_, ?_⟩, fun x hx => ?_, fun x hx => ?_⟩, fun x hx => ⟨?_, (hmem x hx).2.ok⟩⟩
    · rcases (hmem x hx).1 with e | e <;> rw [e] <;> decide
    · obtain ⟨a, b, e, _⟩ := (hmem x hx).2
      exact ⟨a, b, e⟩
    · have : x ∈ ws.map fun y => (S " ", y) := hx
      obtain ⟨y, _, rfl⟩ := List.mem_map.mp this
      rfl
    · have e : (S "", w0) = x := by simpa [ptsOf] using hx
      subst e
      exact ⟨fun _ => ⟨rfl, h0⟩, fun h => absurd rfl h⟩
    · rcases (hmem x hx).1 with e | e <;> rw [e]
      · exact okS_empty
      · exact okS_blank
theorem newl_of {v : VS} {ps : List Part} (hz : ZOk v []) (hv : ∀ x ∈ v.ps, WvOk x.2) (hne : v.ps ≠ []) (h : PartsOf ps v.ps) : NewlOk ps (Int.ofNat v.iv) (textOf ps) := by
  have hpn : ps ≠ [] := fun e => hne (by rw [← h, e]; rfl)
  have e0 : ps = ps.dropLast ++ [ps.getLast hpn] := (List.dropLast_concat_getLast hpn).symm
  have hm : ((ps.getLast hpn).f, (ps.getLast hpn).p) ∈ v.ps := by
    rw [← h]
    exact List.mem_map_of_mem (f := fun x : Part => (x.f, x.p)) (List.getLast_mem hpn)
  have hx : (ps.getLast hpn).p ≠ S "" := by
    obtain ⟨a, b, e, _⟩ := hv _ hm
    intro e2
    have e3 : (⟨#[a, b]⟩ : Str) = S "" := e.symm.trans e2
    have := congrArg (fun z : Str => z.cps.size) e3
    exact absurd (show (2 : Nat) = 0 from this) (by decide)
  cases hi : v.iv with
  | zero =>
    refine NewlOk.lineT _ _ e0 hx rfl ?_
    rw [h.text]
    obtain ⟨a, b, e, h1, h2⟩ := hv _ hm
    have e' : (ps.getLast hpn).p = ⟨#[a, b]⟩ := e
    refine not_space hm (fun c hc => ?_) ?_
    · rw [e] at hc
      have : c = a ∨ c = b := by simpa using hc
      rcases this with rfl | rfl
      · exact h1
      · exact h2
    · rw [e]; simp
  | succ k => exact NewlOk.lineH _ _ k e0 hx rfl (by have := hz.iv; omega)
theorem chunks_words {mx : Nat} {M : List Nat} : ∀ {l : List Pt} {v : VS}, (∀ x ∈ v.ps, WvOk x.2) → (∀ x ∈ l, WvOk x.2) → ∀ x ∈ (chunks mx M v l).ps, WvOk x.2
  | [], v, h, _ => h
  | x :: l, v, h, hl => by
    refine chunks_words (l := l) (v := chunkStep mx M v x.1 x.2) ?_ fun y hy => hl y (List.mem_cons_of_mem _ hy)
    have hx := hl x (List.mem_cons_self ..)
    have hall : ∀ y ∈ v.ps ++ [(x.1, x.2)], WvOk y.2 := fun y hy => by
      rcases List.mem_append.mp hy with hy | hy
      · exact h y hy
      · rw [List.mem_singleton.mp hy]; exact hx
    unfold chunkStep
    split
    · exact hall
    · split
      · intro y hy; rw [List.mem_singleton.mp hy]; exact hx
      · intro y hy; exact hall y (List.mem_of_mem_drop hy)
theorem ptsOf_words {ws : List Str} (hw : ∀ x ∈ ws, WvOk x) : ∀ x ∈ ptsOf ws, WvOk x.2 := by
  cases ws with
  | nil => exact fun x hx => nomatch hx
  | cons w0 ws =>
    intro x hx
    rcases List.mem_cons.mp hx with rfl | hx
    · exact hw _ (List.mem_cons_self ..)
    · obtain ⟨y, hy, rfl⟩ := List.mem_map.mp hx
      exact hw y (List.mem_cons_of_mem _ hy)
theorem sum_le_of {B : Nat} : ∀ {l : List Nat}, (∀ x ∈ l, x ≤ B) → l.sum ≤ l.length * B
  | [], _ => by simp
  | x :: l, h => by
    have h1 := sum_le_of fun y hy => h y (List.mem_cons_of_mem _ hy)
    have h2 := h x (List.mem_cons_self ..)
    rw [List.sum_cons, List.length_cons, Nat.succ_mul]
    omega
theorem fold_facts {hd mx : Nat} {M : List Nat} {ws : List Str} (h0 : 0 < hd) (h1 : hd ≤ 100) (hw : ∀ x ∈ ws, WvOk x) (hl : ws.length ≤ 14) :
    (∀ x ∈ foldOf hd mx M ws, OkS x ∧ x.length ≤ 100) ∧ (foldOf hd mx M ws).length ≤ 61 ∧ ZOk (chunks mx M ⟨[], [], hd⟩ (ptsOf ws)) [] := by
  obtain ⟨hz, hok⟩ := zok_start h0 h1 hw hl
  obtain ⟨hL, hZ⟩ := chunks_ok (mx := mx) (M := M) (v := ⟨[], [], hd⟩) ⟨(fun x hx => nomatch hx), (fun x hx => nomatch hx), (fun x hx => nomatch hx)⟩ hz hok
  refine ⟨fun x hx => ?_, ?_, hZ⟩
  · rcases List.mem_append.mp hx with hx | hx
    · exact ⟨hL.chars x hx, hL.short x hx⟩
    · rw [List.mem_singleton.mp hx]
      refine ⟨ptext_ok hL.parts, ?_⟩
      rw [ptext_len]
      have h1 := ptot_le hZ.ps
      have h2 := hZ.len
      simp only [List.length_nil] at h2
      omega
  · unfold foldOf
    rw [List.length_append]
    have := hZ.lines
    simp only [List.length_cons, List.length_nil] at this ⊢
    omega
theorem join_small {sep : Str} {l : List Str} (hs : sep.length ≤ 1) (hl : l.length ≤ 61) (h : ∀ x ∈ l, x.length ≤ 100) : JoinOk sep l = true ∧ (Txt.join sep l).length ≤ 1000000 := by
  have hsum : (l.map (·.length)).sum ≤ l.length * 100 := by
    have := sum_le_of (l := l.map (·.length)) (B := 100) (fun x hx => by obtain ⟨y, hy, rfl⟩ := List.mem_map.mp hx; exact h y hy)
    rwa [List.length_map] at this
  have hm : l.length * sep.length ≤ 61 := by
    have := Nat.mul_le_mul hl hs
    omega
  have h3 : l.length * 100 ≤ 6100 := by omega
  constructor
  · unfold JoinOk
    rw [StrLaws.joinTotal]
    unfold Builtin.Str.tooLong
    have h24 : sizeLine = 16777216 := rfl
    simp only [Bool.not_eq_true', decide_eq_false_iff_not]
    omega
  · rw [show Txt.join sep l = Str.join sep l from StrLaws.glued_eq_join _ _]
    have := StrLaws.join_length_le sep l
    omega
end Mine

namespace Mine
open PySem PySem.W PySem.W.X
noncomputable section
structure FoIn (hd : Nat) (M : List Nat) (ws : List Str) (tx mk : Str) : Prop where
  h0 : 0 < hd
  h1 : hd ≤ 100
  hM : MOk M
  hk : mk = ⟨M.toArray⟩
  ht : tx = Txt.join (S " ") ws
  l1 : 10 ≤ ws.length
  l2 : ws.length ≤ 14
  hw : ∀ x ∈ ws, WvOk x
noncomputable def foC (hd mx : Nat) (x : Str × Nat × Nat × Nat × Str × Nat) : Cl := ⟨.call (.ref 235) ⟨[.str x.1 x.2.1, .int (Int.ofNat hd) x.2.2.1, .int (Int.ofNat mx) x.2.2.2.1, .str x.2.2.2.2.1 x.2.2.2.2.2], []⟩, [(230, tb0)]⟩
noncomputable def ctFolded (hd mx : Nat) (M : List Nat) (ws rows : List Str) : Ct := mkC 350 (fun c _ _ => (vS (arg c 0), vT (arg c 0), vT (arg c 1), vT (arg c 2), vS (arg c 3), vT (arg c 3))) (foC hd mx) fun x q gs tk post =>
  FoIn hd M ws x.1 x.2.2.2.2.1 ∧ gs = [] ∧ ∀ (n tk' : Nat) (xs vs : Array Value), TextsOf xs rows → post (.ok (.ret (.ref (n + 247)))) tk' [{ cls := .none, data := .fields vs }] [(n + 247, lstO xs 0)] []
noncomputable def ctFr (k : Nat) (C : Ct) : Ct := ⟨C.lv, fun c L q gs tk post => C.pre c L q gs tk fun r tk' L' ns nq => post r tk' L' ns (takeL k q ++ nq)⟩
theorem ctFr_ok {w : World} {V : Vol} {C : Ct} (k : Nat) (hC : CtOk w V C) : CtOk w V (ctFr k C) := by
  intro c L q gs tk post hp A Q h g d os hr H hQ
  refine hC _ _ _ _ _ _ hp A Q h g d os hr H fun r tk' L' ns nq h' g' hx Af => hQ _ _ _ _ _ _ _ hx ⟨Af.len, Af.here, Af.new, Af.newd, fun p hp => ?_, Af.keep, Af.size, Af.inv⟩
  rcases List.mem_append.mp hp with hp | hp
  · exact .inl (takeL_mem hp)
  · exact Af.kn p hp
theorem AcOk.mid {ps : List Part} {xs : Array Value} {A B C : List (Nat × Obj)} (h : AcOk ps xs (B ++ C)) : AcOk ps xs (A ++ B ++ C) := by
  obtain ⟨h1, qs, e, hk, hl⟩ := h
  exact ⟨h1, qs, e, fun p hp => ⟨by rw [List.append_assoc]; exact List.mem_append_right _ (hk p hp).1, (hk p hp).2⟩, hl⟩
theorem foRun (w : World) {q : List (Nat × Obj)} {tk n gz hd mx : Nat} {M : List Nat} {v : VS} {ws ls : List Str} {tx mk txt z : Str} {t u v1 x1 : Nat} {post : Post} (hM : MOk M)
    (h1 : AddTo mk (S " ") (scOf M)) (h2 : fRe ws tx) (h3 : ZOk v (ptsOf ws)) (h4 : TextsOf #[] v.lines) (h5 : ∀ q, AcOk (toP v.ps) #[] q) (h6 : Int.ofNat hd = Int.ofNat v.iv)
    (k1 : ∀ ls' : Array Value, TextsOf ls' (chunks mx M v (ptsOf ws)).lines → ls'.size ≤ 1000) (k2 : NewlOk (toP (chunks mx M v (ptsOf ws)).ps) (Int.ofNat (chunks mx M v (ptsOf ws)).iv) txt)
    (k3 : ∀ (ls' : Array Value) (t : Nat), TextsOf ls' (chunks mx M v (ptsOf ws)).lines → TextsOf (ls'.push (.str txt t)) ls) (k4 : JoinTo (S "\n") ls z) (k5 : SplitTo z (S "\n") ls)
    (hq : ∀ (n tk' : Nat) (xs vs : Array Value), TextsOf xs ls → post (.ok (.ret (.ref (n + 247)))) tk' [{ cls := .none, data := .fields vs }] [(n + 247, lstO xs 0)] []) :
    Runs w V0 340 (foC hd mx (tx, t, u, v1, mk, x1)).c (foC hd mx (tx, t, u, v1, mk, x1)).L q [] tk n gz post := by
  have y1 : ∀ (s e l a : Nat) (τ : Nat → Nat) (q' : List (Nat × Obj)), VfIn w.params (s + 247) (l + 247) (a + 247) (Int.ofNat mx) (scOf M) ((s + 247, vfO (e + 247)) :: (e + 247, vfD w.params τ (Int.ofNat mx) (scOf M) (l + 247) (a + 247)) :: q') := fun s e l a τ q' => ⟨e, τ, List.mem_cons_self .., List.mem_cons_of_mem _ (List.mem_cons_self ..)⟩
  have y2 : ∀ (s e l a : Nat) (τ : Nat → Nat) (q' : List (Nat × Obj)), VfAny w.params (s + 247) (l + 247) (a + 247) ((s + 247, vfO (e + 247)) :: (e + 247, vfD w.params τ (Int.ofNat mx) (scOf M) (l + 247) (a + 247)) :: q') := fun s e l a τ q' => ⟨_, _, e, τ, List.mem_cons_self .., List.mem_cons_of_mem _ (List.mem_cons_self ..)⟩
  have y3 : ∀ (ps : List Part) (xs : Array Value) (A B C : List (Nat × Obj)), AcOk ps xs (B ++ C) → AcOk ps xs (A ++ B ++ C) := fun _ _ _ _ _ h => h.mid
  exact .go1 sub0 (cC (ctVf_ok w V0) <| cC (ctFr_ok 2 (ctAscii_ok w (mx := mx) hM v ws)) <| cC (ctNewl_ok w (toP (chunks mx M v (ptsOf ws)).ps) txt) <| cC (ctJoinL_ok w V0 ls z) <| cC (ctSplitS_ok w V0 ls) <| c1 (ctAdd_ok w V0 (scOf M))) [0,3,3,3,3,3,3,3,3,0,0,0,2,2,2,2,0,0,0,3,3,3,10,0,10,0,10,10,10,10,11,11,11,0,3,3,3,0,2,5,0,0,0,2,0,0,3,3,3,1,100,0,0,0,1,100,0,0,0,1,100,0,0,0,0,1,100,1,101,3,3,0,1,0,15,15,15,15,15,15,15,15,0,0,15,10,0,10,0,10,10,10,11,15,1,100,0,0,0,1,100,0,0,0,1,100,0,0,0,0,1,100,1,101,15,15,15,1,100,0,0,0,0,1,100,0,0,0,1,100,1,100,0,1,101,0,2,1,3,10,11,12,3,1,100,0,0,0,1,100,0,0,0,1,100,0,0,0,0,1,100,1,101,0,1,0,16,16,16,16,0,0,16,1,100,0,0,0,1,100,0,0,0,1,100,0,0,0,0,1,100,1,101,0,2,2,3,10,11,12,16,16,1,100,0,0,0,0,1,100,0,0,0,1,100,1,100,0,1,101,0,2,3,1,10,0,2,4,0] [15] [] 0 (by kernel_rfl) (by kernel_rfl) (ai (rf [n + 247, n + 247, n + 247, n + 255, n + 255, n + 255, n + 254, n + 254, n + 254, n + 254, n + 254, n + 254, n + 247,   n + 247, n + 247, 230, 230, 230, 230, n + 247, n + 247, n + 247, n + 247, n + 247, n + 247, n + 247, n + 247]) (ai (rf (adC ((mk, x1, S " ", tk + 13)))) (ai h1 (fun (n' gz' : Nat) => ai (r7 []) (ai (rf (vnC ((Int.ofNat hd, u, Int.ofNat mx, v1, tk + 12, { cps := (M ++ [32]).toArray }, tk + 14)))) (ai (rf ([] : List (Nat × Code))) (fun (s e l x d tk' kt : Nat) (τ : Nat → Nat) (n'1 gz'1 : Nat) => ai (r7 [e,s,s,s,s,n'1,n'1,n'1,e,s,s,s,s,n'1,n + 8,n + 7,n + 7,n + 7,n + 7,n + 7,n'1,n'1,n'1,n'1,n'1,n'1,n'1,n'1,n'1,n,n,e,s,s,s,s,n,n,n]) (ai (rf (asC w.params (({ s := s, l := l, ls := #[], el := 0, x := { a := x, d := d, xs := #[], ep := 0, kt := kt, iv := Int.ofNat hd, it := u } }, S "", tk' + 1, tx, t, { cps := (M ++ [32]).toArray }, τ 7)))) (ai (rf (S "" : Str)) (ai (y1 s e l x τ ([].append q)) (ai h2 (ai h3 (ai h4 (ai (h5 ([(s + 247, { cls := Value.ref 133, dict := some (e + 247) }), (e + 247, { cls := Value.type "dict", data := Data.dict #[eZ w.params "_maxlen" (τ 0) (Value.int (Int.ofNat mx) (τ 1)), eZ w.params "_continuation_ws" (τ 2) (Value.str (S " ") (τ 3)), eZ w.params "_continuation_ws_len" (τ 4) (Value.int 1 (τ 5)), eZ w.params "_splitchars" (τ 6) (Value.str { cps := (M ++ [32]).toArray } (τ 7)), eZ w.params "_lines" (τ 8) (Value.ref (l + 247)), eZ w.params "_current_line" (τ 9) (Value.ref (x + 247))] 6 })] ++ q)) (ai h6 (ai (rf ([] : List (Nat × Code))) (fun (tk'1 : Nat) (epl' : Nat) (ep' : Nat) (t' : Nat) (ls' : Array Value) (xs' : Array Value) (nq : List (Nat × Obj)) (x2 : TextsOf ls' (chunks mx M v (ptsOf ws)).lines) => fun (x3 : AcOk (toP (chunks mx M v (ptsOf ws)).ps) xs' (nq ++ ([(s + 247, { cls := Value.ref 133, dict := some (e + 247) }), (e + 247, { cls := Value.type "dict", data := Data.dict #[eZ w.params "_maxlen" (τ 0) (Value.int (Int.ofNat mx) (τ 1)), eZ w.params "_continuation_ws" (τ 2) (Value.str (S " ") (τ 3)), eZ w.params "_continuation_ws_len" (τ 4) (Value.int 1 (τ 5)), eZ w.params "_splitchars" (τ 6) (Value.str { cps := (M ++ [32]).toArray } (τ 7)), eZ w.params "_lines" (τ 8) (Value.ref (l + 247)), eZ w.params "_current_line" (τ 9) (Value.ref (x + 247))] 6 })] ++ q))) => fun (x4 : nq.length ≤ 60) (n'2 gz'2 : Nat) => ai (r7 [e,s,s,s,s,n'2,n'2,n'2,n'2,n'2,e,s,s,s,s,n]) (ai (rf (fmC w.params 95 (⟨s, l, ls', epl', ⟨x, d, xs', ep', kt, Int.ofNat (chunks mx M v (ptsOf ws)).iv, t'⟩⟩) [])) (ai (y2 s e l x τ (((takeL 0 ([].append q)).append nq).append ([(s + 247, { cls := Value.ref 133, dict := some (e + 247) }), (e + 247, { cls := Value.type "dict", data := Data.dict #[eZ w.params "_maxlen" (τ 0) (Value.int (Int.ofNat mx) (τ 1)), eZ w.params "_continuation_ws" (τ 2) (Value.str (S " ") (τ 3)), eZ w.params "_continuation_ws_len" (τ 4) (Value.int 1 (τ 5)), eZ w.params "_splitchars" (τ 6) (Value.str { cps := (M ++ [32]).toArray } (τ 7)), eZ w.params "_lines" (τ 8) (Value.ref (l + 247)), eZ w.params "_current_line" (τ 9) (Value.ref (x + 247))] 6 })] ++ q))) (ai (k1 ls' x2) (ai (y3 (toP (chunks mx M v (ptsOf ws)).ps) xs' (takeL 2 ([(s + 247, { cls := Value.ref 133, dict := some (e + 247) }), (e + 247, { cls := Value.type "dict", data := Data.dict #[eZ w.params "_maxlen" (τ 0) (Value.int (Int.ofNat mx) (τ 1)), eZ w.params "_continuation_ws" (τ 2) (Value.str (S " ") (τ 3)), eZ w.params "_continuation_ws_len" (τ 4) (Value.int 1 (τ 5)), eZ w.params "_splitchars" (τ 6) (Value.str { cps := (M ++ [32]).toArray } (τ 7)), eZ w.params "_lines" (τ 8) (Value.ref (l + 247)), eZ w.params "_current_line" (τ 9) (Value.ref (x + 247))] 6 })] ++ q)) nq ([(s + 247, { cls := Value.ref 133, dict := some (e + 247) }), (e + 247, { cls := Value.type "dict", data := Data.dict #[eZ w.params "_maxlen" (τ 0) (Value.int (Int.ofNat mx) (τ 1)), eZ w.params "_continuation_ws" (τ 2) (Value.str (S " ") (τ 3)), eZ w.params "_continuation_ws_len" (τ 4) (Value.int 1 (τ 5)), eZ w.params "_splitchars" (τ 6) (Value.str { cps := (M ++ [32]).toArray } (τ 7)), eZ w.params "_lines" (τ 8) (Value.ref (l + 247)), eZ w.params "_current_line" (τ 9) (Value.ref (x + 247))] 6 })] ++ q) x3) (ai k2 (ai (rf ([] : List (Nat × Code))) (fun (tk'2 epl'1 ep'1 t'1 tt n'3 gz'3 : Nat) => ai (r7 [e,s,s,s,s,n'2,n'2]) (ai (rf (jlC (({ cps := #[10] }, tk'1, l, ls'.push (Value.str txt tt), epl'1)))) (ai (k3 ls' tt x2) (ai k4 (fun (t1 tk'3 n'4 gz'4 : Nat) => ai (r7 []) (ai (rf (ssC ((z, t1, { cps := #[10] }, tk'3)))) (ai k5 (fun (n1 tk'4 : Nat) (xs : Array Value) (x5 : TextsOf xs ls) (n'5 gz'5 : Nat) => ai (r7 []) (hq n1 tk'4 xs (#[Value.int 198 0, Value.int 14 0, Value.ref (n + 253)]) x5))))))))))))))))))))))))))))))))
end
end Mine

namespace Mine
open PySem PySem.W PySem.W.X
theorem ctFolded_ok (w : World) {hd mx : Nat} {M : List Nat} {ws rows : List Str} (hrows : foldOf hd mx M ws = rows) : CtOk w V0 (ctFolded hd mx M ws rows) := mkC_ok 340 rfl fun x q gs tk post h n gz => by
  subst hrows
  obtain ⟨tx, t, u, v, mk, x⟩ := x
  obtain ⟨⟨h0, h1, hM, hk, ht, hl1, hl2, hw⟩, rfl, hq⟩ := h
  dsimp only at hk ht
  subst hk ht
  obtain ⟨hF1, hF2, hF3⟩ := fold_facts (mx := mx) (M := M) h0 h1 hw hl2
  have hz := zok_start h0 h1 hw hl2
  have hwsne : ptsOf ws ≠ [] := by
    cases ws with
    | nil => exact absurd hl1 (by decide)
    | cons _ _ => simp [ptsOf]
  have hmk : (⟨M.toArray⟩ : Str).length ≠ 0 ∧ (⟨M.toArray⟩ : Str).length + (S " ").length ≤ 1000 := by
    have h1 : (S " ").length = 1 := by decide +kernel
    obtain ⟨⟨c1, rfl | ⟨c2, rfl⟩⟩, _⟩ := hM
    · have h2 : (⟨[c1].toArray⟩ : Str).length = 1 := rfl
      omega
    · have h2 : (⟨[c1, c2].toArray⟩ : Str).length = 2 := rfl
      omega
  have hsc : (⟨M.toArray⟩ : Str) ++ S " " = scOf M := by
    show (⟨(⟨M.toArray⟩ : Str).cps ++ (S " ").cps⟩ : Str) = scOf M
    unfold scOf
    rw [blank_eq]
    simp
  have hj := join_small (sep := S "\n") (l := foldOf hd mx M ws) (by decide) hF2 fun x hx => (hF1 x hx).2
  have hp := toP_of (chunks mx M ⟨[], [], hd⟩ (ptsOf ws)).ps
  have e : S "\n" = ⟨#[10]⟩ := by decide +kernel
  have hspl : Txt.split (Txt.join (S "\n") (foldOf hd mx M ws)) (S "\n") = foldOf hd mx M ws := by
    rw [e]
    refine split_join (by unfold foldOf; simp) fun x hx hc => ?_
    have := (hF1 x hx).1 10 hc
    unfold Okc at this
    omega
  refine foRun w (v := ⟨[], [], hd⟩) hM ⟨hmk.1, by decide, hmk.2, hsc⟩ ⟨rfl, hl1, hl2, fun x hx => (hw x hx).wd⟩ hz.1 ⟨[], rfl, rfl⟩ (fun q => ⟨⟨Nat.zero_le _, (fun _ h => nomatch h)⟩, [], rfl, (fun _ h => nomatch h), rfl⟩) rfl (fun ls' e => ?_)
    (newl_of hF3 (chunks_words (fun x hx => nomatch hx) (ptsOf_words hw)) (chunks_ne hwsne) hp) (fun ls' t e => ?_) ⟨hj.1, hj.2, rfl⟩ ⟨by rw [e]; rfl, hj.2, hspl⟩ hq
  · rw [e.size]; have := hF3.lines; simp only [List.length_nil] at this; omega
  · rw [hp.text]
    exact e.push _ _
end Mine

namespace Mine
open PySem PySem.W PySem.W.X
noncomputable section
noncomputable def Mod24 (a b k : Int) : Prop := b = 24 ∧ a % 24 = k
noncomputable def IntLt (a b : Int) (V : Bool) : Prop := decide (a < b) = V
noncomputable def ctMod (k : Int) : Ct := ctInt 116512097088030077292474218 fun l X => kII l fun x y => Mod24 x y k ∧ X k
noncomputable def ctLt (b : Bool) : Ct := ctPure 455126531311803185852266 fun l X => kII l fun x y => IntLt x y b ∧ X (.bool b)
theorem ctMod_ok (w : World) (V : Vol) (k : Int) : CtOk w V (ctMod k) := ctInt_ok w V (s := "int.__mod__") (by decide +kernel) (by decide +kernel) PySem.F.entry_int_mod fun l X h => by
  obtain ⟨a, t, b, u, rfl, ⟨rfl, rfl⟩, h2⟩ := kII_e h
  have z := AutoIntG6.int___mod___int_int_1 a t 24 u (by decide)
  rw [Int.fmod_eq_emod_of_nonneg a (by decide : (0 : Int) ≤ 24)] at z
  exact ⟨_, z, h2⟩
theorem ctLt_ok (w : World) (V : Vol) (b : Bool) : CtOk w V (ctLt b) := ctPure_ok w V (s := "int.__lt__") (by decide +kernel) (by decide +kernel) PySem.F.entry_int_lt fun l X h => by
  obtain ⟨x, t, y, u, rfl, h1, h2⟩ := kII_e h
  have := gives_int_lt x y t u
  rw [h1] at this
  exact ⟨_, this, h2⟩
noncomputable def symTab : List (Int × Str) := [(27, S "=="), (28, S "!="), (29, S "<="), (30, S ">="), (33, S "<<"), (34, S ">>"), (35, S "**"), (36, S "+="), (37, S "-="), (38, S "*="), (39, S "/="), (40, S "%="), (41, S "&="), (42, S "|="), (43, S "^="), (47, S "//"), (50, S "@="), (51, S "->"), (53, S ":="), (256, S "n0"), (257, S "n1"), (258, S "n2"), (259, S "n3"), (260, S "n4")]
noncomputable def symOf (x : Int) : Int × Str := symTab.getD (x % 24).toNat (0, ⟨#[]⟩)
noncomputable def symO (x : Int) (t u : Nat) : Obj := lstO #[.int (symOf x).1 t, .str (symOf x).2 u] 0
noncomputable def SymIs (x i : Int) (s : Str) : Prop := i = (symOf x).1 ∧ s = (symOf x).2
noncomputable def syC (x : Int × Nat) : Cl := ⟨.call (.ref 228) ⟨[.int x.1 x.2], []⟩, []⟩
noncomputable def ctSym : Ct := mkC 50 (fun c _ _ => (vI (arg c 0), vT (arg c 0))) syC fun x q gs tk post =>
  gs = [] ∧ ∀ (n tk' t' u' : Nat) (i : Int) (s : Str), SymIs x.1 i s → post (.ok (.ret (.ref (n + 247)))) tk' [] [] [(n + 247, lstO #[.int i t', .str s u'] 0)]
theorem sym_lt (x : Int) : (x % 24).toNat < 24 ∧ x % 24 = Int.ofNat (x % 24).toNat := by
  have h1 := Int.emod_nonneg x (show (24 : Int) ≠ 0 by decide)
  have h2 := Int.emod_lt_of_pos x (show (0 : Int) < 24 by decide)
  refine ⟨by omega, ?_⟩
  show x % 24 = (((x % 24).toNat : Nat) : Int)
  omega
noncomputable def numArr (tk : Nat) : Array Value := #[.int 27 (tk + 21), .int 28 (tk + 22), .int 29 (tk + 23), .int 30 (tk + 24), .int 33 (tk + 25), .int 34 (tk + 26), .int 35 (tk + 27), .int 36 (tk + 28), .int 37 (tk + 29), .int 38 (tk + 30), .int 39 (tk + 31), .int 40 (tk + 32), .int 41 (tk + 33), .int 42 (tk + 34), .int 43 (tk + 35), .int 47 (tk + 36), .int 50 (tk + 37), .int 51 (tk + 38), .int 53 (tk + 39)]
noncomputable def sgnArr (tk : Nat) : Array Value := #[.str (S "==") (tk + 1), .str (S "!=") (tk + 2), .str (S "<=") (tk + 3), .str (S ">=") (tk + 4), .str (S "<<") (tk + 5), .str (S ">>") (tk + 6), .str (S "**") (tk + 7), .str (S "+=") (tk + 8), .str (S "-=") (tk + 9), .str (S "*=") (tk + 10), .str (S "/=") (tk + 11), .str (S "%=") (tk + 12), .str (S "&=") (tk + 13), .str (S "|=") (tk + 14), .str (S "^=") (tk + 15), .str (S "//") (tk + 16), .str (S "@=") (tk + 17), .str (S "->") (tk + 18), .str (S ":=") (tk + 19)]
theorem num_at (tk : Nat) : ∀ k, k < 19 → (numArr tk)[k]? = some (.int (symTab.getD k (0, ⟨#[]⟩)).1 (tk + (21 + k))) ∧ (sgnArr tk)[k]? = some (.str (symTab.getD k (0, ⟨#[]⟩)).2 (tk + (1 + k)))
  | 0, _ | 1, _ | 2, _ | 3, _ | 4, _ | 5, _ | 6, _ | 7, _ | 8, _ | 9, _ | 10, _ | 11, _ | 12, _ | 13, _ | 14, _ | 15, _ | 16, _ | 17, _ | 18, _ => ⟨rfl, rfl⟩
  | m + 19, h => absurd h (by omega)
section
variable (w : World) (V : Vol) {q : List (Nat × Obj)} {tk n gz t : Nat} {x : Int} {post : Post}
theorem symA {k : Int} {i : Int} {s : Str} {ti ts : Nat} (h : Mod24 x 24 k) (h1 : IntLt k 19 true) (h2 : 0 ≤ k) (h3 : k < 1000000) (h4 : AtI (numArr tk) k (.int i ti)) (h5 : AtI (sgnArr tk) k (.str s ts))
    (hq : ∀ n tk' t' u' : Nat, post (.ok (.ret (.ref (n + 247)))) tk' [] [] [(n + 247, lstO #[.int i t', .str s u'] 0)]) : Runs w V 40 (syC (x, t)).c [] q [] tk n gz post := by
  exact .go1 sub0 (cC (ctMod_ok w V k) <| cC (ctLt_ok w V true) <| cC (ctGet_ok w V (.int i ti)) <| c1 (ctGet_ok w V (.str s ts))) [0,2,2,0,0,2,2,2,2,2,0,2,0,0,2,2,2,0,2,1,0,2,2,4,4,4,0,4,2,2,1,2,2,2,3,3,3,0,3,2,3,1,1] [] [3] 0 (by kernel_rfl) (by kernel_rfl) (ai (r7 [n,n,n,n,n,n,n]) (ai h (fun (n' gz' : Nat) => ai (r7 [n,n,n]) (ai h1 (fun (n'1 gz'1 : Nat) => ai (r7 [n + 2,n + 2,n + 2,n + 2,n,n]) (ai (rf (n + 249)) (ai h2 (ai h3 (ai h4 (fun (n'2 gz'2 : Nat) => ai (r7 [n + 1,n + 1,n + 1,n + 1,n,n]) (ai (rf (n + 248)) (ai h2 (ai h3 (ai h5 (fun (n'3 gz'3 : Nat) => ai (r7 []) (hq n'3 (tk + 45) ti ts))))))))))))))))
theorem symE0 (h : Mod24 x 24 19) (hq : ∀ n tk' t' u' : Nat, post (.ok (.ret (.ref (n + 247)))) tk' [] [] [(n + 247, lstO #[.int 256 t', .str (S "n0") u'] 0)]) : Runs w V 40 (syC (x, t)).c [] q [] tk n gz post := by
  exact .go1 sub0 (c1 (ctMod_ok w V 19)) [0,2,2,0,0,2,2,2,2,2,0,2,0,0,2,2,2,0,0,2,0,0,0,0,0,0,2,0,0,0,0,0,0,0,0,0,0,0,0,0,0] [] [3] 0 (by kernel_rfl) (by kernel_rfl) (ai (r7 [n,n,n,n,n,n,n]) (ai h (fun (n' gz' : Nat) => ai (r7 [n,n,n,n,n]) (hq n' (tk + 54) (tk + 48) (tk + 53)))))
theorem symE1 (h : Mod24 x 24 20) (hq : ∀ n tk' t' u' : Nat, post (.ok (.ret (.ref (n + 247)))) tk' [] [] [(n + 247, lstO #[.int 257 t', .str (S "n1") u'] 0)]) : Runs w V 40 (syC (x, t)).c [] q [] tk n gz post := by
  exact .go1 sub0 (c1 (ctMod_ok w V 20)) [0,2,2,0,0,2,2,2,2,2,0,2,0,0,2,2,2,0,0,2,0,0,0,0,0,0,2,0,0,0,0,0,0,0,0,0,0,0,0,0,0] [] [3] 0 (by kernel_rfl) (by kernel_rfl) (ai (r7 [n,n,n,n,n,n,n]) (ai h (fun (n' gz' : Nat) => ai (r7 [n,n,n,n,n]) (hq n' (tk + 54) (tk + 48) (tk + 53)))))
theorem symE2 (h : Mod24 x 24 21) (hq : ∀ n tk' t' u' : Nat, post (.ok (.ret (.ref (n + 247)))) tk' [] [] [(n + 247, lstO #[.int 258 t', .str (S "n2") u'] 0)]) : Runs w V 40 (syC (x, t)).c [] q [] tk n gz post := by
  exact .go1 sub0 (c1 (ctMod_ok w V 21)) [0,2,2,0,0,2,2,2,2,2,0,2,0,0,2,2,2,0,0,2,0,0,0,0,0,0,2,0,0,0,0,0,0,0,0,0,0,0,0,0,0] [] [3] 0 (by kernel_rfl) (by kernel_rfl) (ai (r7 [n,n,n,n,n,n,n]) (ai h (fun (n' gz' : Nat) => ai (r7 [n,n,n,n,n]) (hq n' (tk + 54) (tk + 48) (tk + 53)))))
theorem symE3 (h : Mod24 x 24 22) (hq : ∀ n tk' t' u' : Nat, post (.ok (.ret (.ref (n + 247)))) tk' [] [] [(n + 247, lstO #[.int 259 t', .str (S "n3") u'] 0)]) : Runs w V 40 (syC (x, t)).c [] q [] tk n gz post := by
  exact .go1 sub0 (c1 (ctMod_ok w V 22)) [0,2,2,0,0,2,2,2,2,2,0,2,0,0,2,2,2,0,0,2,0,0,0,0,0,0,2,0,0,0,0,0,0,0,0,0,0,0,0,0,0] [] [3] 0 (by kernel_rfl) (by kernel_rfl) (ai (r7 [n,n,n,n,n,n,n]) (ai h (fun (n' gz' : Nat) => ai (r7 [n,n,n,n,n]) (hq n' (tk + 54) (tk + 48) (tk + 53)))))
theorem symE4 (h : Mod24 x 24 23) (hq : ∀ n tk' t' u' : Nat, post (.ok (.ret (.ref (n + 247)))) tk' [] [] [(n + 247, lstO #[.int 260 t', .str (S "n4") u'] 0)]) : Runs w V 40 (syC (x, t)).c [] q [] tk n gz post := by
  exact .go1 sub0 (c1 (ctMod_ok w V 23)) [0,2,2,0,0,2,2,2,2,2,0,2,0,0,2,2,2,0,0,2,0,0,0,0,0,0,2,0,0,0,0,0,0,0,0,0,0,0,0,0,0] [] [3] 0 (by kernel_rfl) (by kernel_rfl) (ai (r7 [n,n,n,n,n,n,n]) (ai h (fun (n' gz' : Nat) => ai (r7 [n,n,n,n,n]) (hq n' (tk + 54) (tk + 48) (tk + 53)))))
end
theorem ctSym_ok (w : World) (V : Vol) : CtOk w V ctSym := mkC_ok 40 rfl fun x q gs tk post h n gz => by
  obtain ⟨x, t⟩ := x
  obtain ⟨rfl, hq⟩ := h
  obtain ⟨hlt, hxe⟩ := sym_lt x
  replace hq := fun n tk' t' u' => hq n tk' t' u' _ _ ⟨rfl, rfl⟩
  dsimp only [symOf] at hq
  generalize (x % 24).toNat = k at hlt hxe hq
  by_cases hk : k < 19
  · obtain ⟨h1, h2⟩ := num_at tk k hk
    exact symA w V (k := Int.ofNat k) ⟨rfl, hxe⟩ (decide_eq_true (by show (k : Int) < 19; omega)) (Int.natCast_nonneg k) (by show (k : Int) < 1000000; omega) h1 h2 hq
  · have h5 : k = 19 ∨ k = 20 ∨ k = 21 ∨ k = 22 ∨ k = 23 := by omega
    rcases h5 with rfl | rfl | rfl | rfl | rfl
    · exact symE0 w V ⟨rfl, hxe⟩ hq
    · exact symE1 w V ⟨rfl, hxe⟩ hq
    · exact symE2 w V ⟨rfl, hxe⟩ hq
    · exact symE3 w V ⟨rfl, hxe⟩ hq
    · exact symE4 w V ⟨rfl, hxe⟩ hq
end
end Mine

namespace Mine
open PySem PySem.W PySem.W.X
noncomputable def wst (l : List Str) (c j : Nat) : Bool := match l[j - 1]? with
  | some x => endsC c x
  | none => false
noncomputable def cutW : List Nat → List Str → Nat → Nat
  | [], _, m => m
  | c :: M, l, m => match findBrk (wst l c) m with
    | some j => j
    | none => cutW M l m
noncomputable def rowsGo : Nat → List Nat → Nat → Nat → List Str → List (List Str)
  | 0, _, _, _, l => [l]
  | f + 1, M, mx, room, l => if room < l.length then l.take (cutW M l room) :: rowsGo f M mx (mx / 3) (l.drop (cutW M l room)) else [l]
noncomputable def rendB (r : List Str) : Str := Txt.join Str.empty (r.map fun x => S " " ++ x)
noncomputable def rend : List (List Str) → List Str
  | [] => []
  | r :: rs => Txt.join (S " ") r :: rs.map rendB
noncomputable def blk (l : List Str) : List Pt := l.map fun x => (S " ", x)
theorem findBrk_congr {t t' : Nat → Bool} : ∀ {m : Nat}, (∀ j, 1 ≤ j → j ≤ m → t j = t' j) → findBrk t m = findBrk t' m
  | 0, _ => rfl
  | m + 1, h => by
    unfold findBrk
    rw [h (m + 1) (by omega) (Nat.le_refl _), findBrk_congr (m := m) fun j h1 h2 => h j h1 (by omega)]
theorem cut_congr {l : List Pt} {l' : List Str} {m : Nat} : ∀ (M : List Nat), (∀ c j, 1 ≤ j → j ≤ m → ptst l c j = wst l' c j) → cutAt M l m = cutW M l' m
  | [], _ => rfl
  | c :: M, h => by
    unfold cutAt cutW
    rw [findBrk_congr (h c), cut_congr M h]
    try (cases findBrk (wst l' c) m <;> rfl)
theorem cutW_le : ∀ (M : List Nat) (l : List Str) (m : Nat), cutW M l m ≤ m
  | [], _, m => Nat.le_refl _
  | c :: M, l, m => by
    unfold cutW
    split
    · rename_i j h
      exact (findBrk_le h).2
    · exact cutW_le M l m
theorem cutW_pos : ∀ (M : List Nat) (l : List Str) (m : Nat), 1 ≤ m → 1 ≤ cutW M l m
  | [], _, m, h => h
  | c :: M, l, m, h => by
    unfold cutW
    split
    · rename_i j hj
      exact (findBrk_le hj).1
    · exact cutW_pos M l m h
theorem cutW_zero : ∀ (M : List Nat) (l : List Str), cutW M l 0 = 0
  | [], _ => rfl
  | c :: M, l => by
    unfold cutW
    exact cutW_zero M l
theorem ptot_append (l l' : List Pt) : ptot (l ++ l') = ptot l + ptot l' := by simp [ptot]
theorem ptot_blk : ∀ {l : List Str}, (∀ x ∈ l, x.length = 2) → ptot (blk l) = 3 * l.length
  | [], _ => rfl
  | x :: l, h => by
    have h1 := ptot_blk fun y hy => h y (List.mem_cons_of_mem _ hy)
    have h2 := h x (List.mem_cons_self ..)
    have h3 : (S " ").length = 1 := by decide +kernel
    unfold ptot blk at h1 ⊢
    rw [List.map_cons, List.map_cons, List.sum_cons, h1]
    show (S " ").length + x.length + _ = _
    rw [h2, h3, List.length_cons]
    omega
theorem ptext_blk (l : List Str) : ptext (blk l) = rendB l := by
  unfold ptext blk rendB
  rw [List.map_map]
  rfl
theorem rowsGo_short {f : Nat} {M : List Nat} {mx room : Nat} {l : List Str} (h : l.length ≤ room) : rowsGo f M mx room l = [l] := by
  cases f with
  | zero => rfl
  | succ f => unfold rowsGo; rw [if_neg (by omega)]
theorem ptst_blk {cur : List Str} {x : Str} {r : List Str} {g : List Pt} {c j : Nat} (hg : ∀ k, k < cur.length → (g[k]?).map Prod.snd = cur[k]?) (h1 : 1 ≤ j) (h2 : j ≤ cur.length) : ptst g c j = wst (cur ++ r) c j := by
  unfold ptst wst
  have e := hg (j - 1) (by omega)
  rw [List.getElem?_append_left (by omega), ← e]
  cases g[j - 1]? <;> rfl
theorem snd_blk (cur : List Str) (x : Pt) : ∀ k, k < cur.length → ((blk cur ++ [x])[k]?).map Prod.snd = cur[k]? := fun k hk => by
  rw [List.getElem?_append_left (by simp [blk]; exact hk)]
  unfold blk
  rw [List.getElem?_map]
  cases cur[k]? <;> rfl
theorem fold_blk {mx : Nat} {M : List Nat} (hm : 3 ≤ mx) : ∀ (rest cur : List Str) (lines : List Str) (f : Nat), (∀ x ∈ cur ++ rest, x.length = 2) → cur.length ≤ mx / 3 → (cur ++ rest).length ≤ f →
    (chunks mx M ⟨lines, blk cur, 0⟩ (blk rest)).lines ++ [ptext (chunks mx M ⟨lines, blk cur, 0⟩ (blk rest)).ps] = lines ++ (rowsGo f M mx (mx / 3) (cur ++ rest)).map rendB
  | [], cur, lines, f, _, hc, _ => by
    rw [List.append_nil, rowsGo_short hc]
    show lines ++ [ptext (blk cur)] = _
    rw [ptext_blk]
    rfl
  | x :: rest, cur, lines, f, hw, hc, hf => by
    have hx : x.length = 2 := hw x (by simp)
    have h1 : (S " ").length = 1 := by decide +kernel
    have hcw : ∀ y ∈ cur, y.length = 2 := fun y hy => hw y (by simp [hy])
    have htot : ptot (blk cur ++ [(S " ", x)]) = 3 * (cur.length + 1) := by
      rw [ptot_append, ptot_blk hcw]
      show _ + ((S " ").length + x.length + 0) = _
      omega
    have hstep : chunks mx M ⟨lines, blk cur, 0⟩ (blk (x :: rest)) = chunks mx M (chunkStep mx M ⟨lines, blk cur, 0⟩ (S " ") x) (blk rest) := rfl
    rw [hstep]
    have e1 : blk cur ++ [(S " ", x)] = blk (cur ++ [x]) := by simp [blk]
    by_cases hle : 3 * (cur.length + 1) ≤ mx
    · have e : chunkStep mx M ⟨lines, blk cur, 0⟩ (S " ") x = ⟨lines, blk (cur ++ [x]), 0⟩ := by
        unfold chunkStep
        rw [htot, if_pos (by show 0 + _ ≤ mx; omega), e1]
      rw [e]
      have ih := fold_blk (M := M) hm rest (cur ++ [x]) lines f (by simpa using hw) (by rw [List.length_append]; simp only [List.length_cons, List.length_nil]; omega) (by simpa using hf)
      rw [ih]
      simp
    · have hlen : cur.length = mx / 3 := by omega
      have hne : 1 ≤ cur.length := by omega
      have hcut : cutAt M (blk cur ++ [(S " ", x)]) (blk cur).length = cutW M (cur ++ x :: rest) (mx / 3) := by
        rw [show (blk cur).length = mx / 3 by simp [blk, hlen]]
        exact cut_congr M fun c j a b => ptst_blk (snd_blk cur _) (x := x) a (by omega)
      have hb1 := cutW_le M (cur ++ x :: rest) (mx / 3)
      have hb2 := cutW_pos M (cur ++ x :: rest) (mx / 3) (by omega)
      generalize hcc : cutW M (cur ++ x :: rest) (mx / 3) = c at hcut hb1 hb2
      have e : chunkStep mx M ⟨lines, blk cur, 0⟩ (S " ") x = ⟨lines ++ [ptext ((blk cur ++ [(S " ", x)]).take c)], (blk cur ++ [(S " ", x)]).drop c, 0⟩ := by
        unfold chunkStep
        rw [htot, if_neg (by show ¬ (0 + _ ≤ mx); omega)]
        simp only [hcut]
        cases cur with
        | nil => exact absurd hne (by simp)
        | cons y cur => rfl
      rw [e, e1]
      have e2 : (blk (cur ++ [x])).drop c = blk ((cur ++ [x]).drop c) := by simp [blk, List.map_drop]
      have e3 : (blk (cur ++ [x])).take c = blk ((cur ++ [x]).take c) := by simp [blk, List.map_take]
      rw [e2, e3, ptext_blk]
      cases f with
      | zero => simp at hf
      | succ f =>
        have e4 : (cur ++ x :: rest).take c = (cur ++ [x]).take c := by
          rw [show cur ++ x :: rest = (cur ++ [x]) ++ rest by simp, List.take_append_of_le_length (by simp; omega)]
        have e5 : (cur ++ x :: rest).drop c = (cur ++ [x]).drop c ++ rest := by
          rw [show cur ++ x :: rest = (cur ++ [x]) ++ rest by simp, List.drop_append_of_le_length (by simp; omega)]
        have ih := fold_blk (M := M) hm rest ((cur ++ [x]).drop c) (lines ++ [rendB ((cur ++ [x]).take c)]) f (fun y hy => hw y (by
          rw [← e5] at hy; exact List.mem_of_mem_drop hy)) (by rw [List.length_drop, List.length_append]; simp only [List.length_cons, List.length_nil]; omega) (by
            rw [← e5, List.length_drop]; omega)
        rw [ih]
        have e6 : rowsGo (f + 1) M mx (mx / 3) (cur ++ x :: rest) = (cur ++ [x]).take c :: rowsGo f M mx (mx / 3) ((cur ++ [x]).drop c ++ rest) := by
          show (if mx / 3 < (cur ++ x :: rest).length then _ else _) = _
          rw [if_pos (by simp; omega), hcc, e4, e5]
        rw [e6]
        simp
theorem ptext_pts (l : List Str) : ptext (ptsOf l) = Txt.join (S " ") l := by
  refine str_ext ?_
  rw [ptext_toList]
  rw [show Txt.join (S " ") l = Str.join (S " ") l from StrLaws.glued_eq_join _ _]
  cases l with
  | nil => rfl
  | cons x l =>
    have h0 : (S "").cps.toList = [] := by decide +kernel
    show ((S "").cps.toList ++ x.cps.toList) ++ ((blk l).map fun x => x.1.cps.toList ++ x.2.cps.toList).flatten = _
    rw [h0, List.nil_append]
    induction l generalizing x with
    | nil => simp [blk, Str.join]
    | cons y l ih =>
      rw [join_cons2, ← ih y]
      show x.cps.toList ++ (((S " ").cps.toList ++ y.cps.toList) ++ ((blk l).map fun x => x.1.cps.toList ++ x.2.cps.toList).flatten) = _
      rw [List.append_assoc]
theorem pts_append (w0 : Str) (cur : List Str) (x : Str) : ptsOf (w0 :: cur) ++ [(S " ", x)] = ptsOf (w0 :: cur ++ [x]) := (ptsOf_snoc w0 x cur).symm
theorem ptot_pts {w0 : Str} {l : List Str} (h : ∀ x ∈ w0 :: l, x.length = 2) : ptot (ptsOf (w0 :: l)) = 3 * l.length + 2 := by
  show ptot ([(S "", w0)] ++ blk l) = _
  rw [ptot_append, ptot_blk fun y hy => h y (List.mem_cons_of_mem _ hy)]
  have h0 : (S "").length = 0 := by decide +kernel
  have h1 := h w0 (List.mem_cons_self ..)
  show ((S "").length + w0.length + 0) + _ = _
  omega
theorem fold_fst {hd mx : Nat} {M : List Nat} (hm : 3 ≤ mx) (h0 : 0 < hd) (w0 : Str) : ∀ (rest cur : List Str) (f : Nat), (∀ x ∈ w0 :: cur ++ rest, x.length = 2) → (w0 :: cur).length ≤ (mx + 1 - hd) / 3 → (w0 :: cur ++ rest).length ≤ f →
    (chunks mx M ⟨[], ptsOf (w0 :: cur), hd⟩ (blk rest)).lines ++ [ptext (chunks mx M ⟨[], ptsOf (w0 :: cur), hd⟩ (blk rest)).ps] = rend (rowsGo f M mx ((mx + 1 - hd) / 3) (w0 :: cur ++ rest))
  | [], cur, f, _, hc, _ => by
    rw [List.append_nil, rowsGo_short hc]
    show [] ++ [ptext (ptsOf (w0 :: cur))] = [Txt.join (S " ") (w0 :: cur)]
    rw [ptext_pts]
    rfl
  | x :: rest, cur, f, hw, hc, hf => by
    have hx : x.length = 2 := hw x (by simp)
    have h1 : (S " ").length = 1 := by decide +kernel
    have hcw : ∀ y ∈ w0 :: cur, y.length = 2 := fun y hy => hw y (by
      rcases List.mem_cons.mp hy with rfl | hy
      · simp
      · simp [hy])
    have htot : ptot (ptsOf (w0 :: cur) ++ [(S " ", x)]) = 3 * (cur.length + 1) + 2 := by
      rw [ptot_append, ptot_pts hcw]
      show _ + ((S " ").length + x.length + 0) = _
      omega
    have hstep : chunks mx M ⟨[], ptsOf (w0 :: cur), hd⟩ (blk (x :: rest)) = chunks mx M (chunkStep mx M ⟨[], ptsOf (w0 :: cur), hd⟩ (S " ") x) (blk rest) := rfl
    rw [hstep]
    have e1 := pts_append w0 cur x
    simp only [List.length_cons] at hc
    by_cases hle : hd + (3 * (cur.length + 1) + 2) ≤ mx
    · have e : chunkStep mx M ⟨[], ptsOf (w0 :: cur), hd⟩ (S " ") x = ⟨[], ptsOf (w0 :: (cur ++ [x])), hd⟩ := by
        unfold chunkStep
        rw [htot, if_pos hle, e1]
        rfl
      rw [e]
      have ih := fold_fst (M := M) hm h0 w0 rest (cur ++ [x]) f (by simpa using hw) (by simp only [List.length_cons, List.length_append, List.length_nil]; omega) (by simpa using hf)
      rw [ih]
      simp
    · have hlen : cur.length + 1 = (mx + 1 - hd) / 3 := by omega
      have hpl : (ptsOf (w0 :: cur)).length = (mx + 1 - hd) / 3 := by
        rw [← hlen]; simp [ptsOf]
      have hsnd : ∀ k, k < (w0 :: cur).length → ((ptsOf (w0 :: cur) ++ [(S " ", x)])[k]?).map Prod.snd = (w0 :: cur)[k]? := fun k hk => by
        cases k with
        | zero => rfl
        | succ k => exact snd_blk cur _ k (Nat.lt_of_succ_lt_succ hk)
      have hcut : cutAt M (ptsOf (w0 :: cur) ++ [(S " ", x)]) (ptsOf (w0 :: cur)).length = cutW M (w0 :: cur ++ x :: rest) ((mx + 1 - hd) / 3) := by
        rw [hpl]
        exact cut_congr M fun c j a b => ptst_blk hsnd (x := x) a (by simp only [List.length_cons]; omega)
      have hb1 := cutW_le M (w0 :: cur ++ x :: rest) ((mx + 1 - hd) / 3)
      have hb2 := cutW_pos M (w0 :: cur ++ x :: rest) ((mx + 1 - hd) / 3) (by omega)
      generalize hcc : cutW M (w0 :: cur ++ x :: rest) ((mx + 1 - hd) / 3) = c at hcut hb1 hb2
      have e : chunkStep mx M ⟨[], ptsOf (w0 :: cur), hd⟩ (S " ") x = ⟨[] ++ [ptext ((ptsOf (w0 :: cur) ++ [(S " ", x)]).take c)], (ptsOf (w0 :: cur) ++ [(S " ", x)]).drop c, 0⟩ := by
        unfold chunkStep
        rw [htot, if_neg hle]
        simp only [hcut]
        rfl
      rw [e, e1]
      obtain ⟨c', rfl⟩ : ∃ c', c = c' + 1 := ⟨c - 1, by omega⟩
      have e2 : (ptsOf (w0 :: cur ++ [x])).drop (c' + 1) = blk ((w0 :: cur ++ [x]).drop (c' + 1)) := by
        show ((S "", w0) :: blk (cur ++ [x])).drop (c' + 1) = _
        simp [blk, List.map_drop]
      have e3 : (ptsOf (w0 :: cur ++ [x])).take (c' + 1) = ptsOf ((w0 :: cur ++ [x]).take (c' + 1)) := by
        show ((S "", w0) :: blk (cur ++ [x])).take (c' + 1) = (S "", w0) :: blk ((cur ++ [x]).take c')
        simp [blk, List.map_take]
      rw [e2, e3, ptext_pts]
      cases f with
      | zero => simp at hf
      | succ f =>
        have e0 : w0 :: cur ++ x :: rest = (w0 :: cur ++ [x]) ++ rest := by simp
        have e4 : (w0 :: cur ++ x :: rest).take (c' + 1) = (w0 :: cur ++ [x]).take (c' + 1) := by
          rw [e0, List.take_append_of_le_length (by simp; omega)]
        have e5 : (w0 :: cur ++ x :: rest).drop (c' + 1) = (w0 :: cur ++ [x]).drop (c' + 1) ++ rest := by
          rw [e0, List.drop_append_of_le_length (by simp; omega)]
        have ih := fold_blk (M := M) hm rest ((w0 :: cur ++ [x]).drop (c' + 1)) ([] ++ [Txt.join (S " ") ((w0 :: cur ++ [x]).take (c' + 1))]) f (fun y hy => hw y (by
          rw [← e5] at hy; exact List.mem_of_mem_drop hy)) (by rw [List.length_drop]; simp only [List.length_append, List.length_cons, List.length_nil]; omega) (by
            rw [← e5, List.length_drop]; omega)
        rw [ih]
        have e6 : rowsGo (f + 1) M mx ((mx + 1 - hd) / 3) (w0 :: cur ++ x :: rest) = (w0 :: cur ++ [x]).take (c' + 1) :: rowsGo f M mx (mx / 3) ((w0 :: cur ++ [x]).drop (c' + 1) ++ rest) := by
          show (if (mx + 1 - hd) / 3 < (w0 :: cur ++ x :: rest).length then _ else _) = _
          rw [if_pos (by simp; omega), hcc, e4, e5]
        rw [e6]
        rfl
theorem fold_rows {hd mx : Nat} {M : List Nat} {ws : List Str} (hm : 3 ≤ mx) (h0 : 0 < hd) (hne : ws ≠ []) (hw : ∀ x ∈ ws, x.length = 2) (f : Nat) (hf : ws.length < f) :
    foldOf hd mx M ws = rend (rowsGo f M mx ((mx + 1 - hd) / 3) ws) := by
  cases ws with
  | nil => exact absurd rfl hne
  | cons w0 ws =>
    unfold foldOf
    have hstep : chunks mx M ⟨[], [], hd⟩ (ptsOf (w0 :: ws)) = chunks mx M (chunkStep mx M ⟨[], [], hd⟩ (S "") w0) (blk ws) := rfl
    rw [hstep]
    have htot : ptot ([] ++ [(S "", w0)]) = 2 := by
      have h0 : (S "").length = 0 := by decide +kernel
      have h1 := hw w0 (List.mem_cons_self ..)
      show ((S "").length + w0.length + 0) = _
      omega
    by_cases hle : hd + 2 ≤ mx
    · have e : chunkStep mx M ⟨[], [], hd⟩ (S "") w0 = ⟨[], ptsOf [w0], hd⟩ := by
        unfold chunkStep
        rw [htot, if_pos hle]
        rfl
      rw [e]
      exact fold_fst (M := M) hm h0 w0 ws [] f (by simpa using hw) (by simp only [List.length_cons, List.length_nil]; omega) (by simp only [List.length_cons] at hf; simp only [List.cons_append, List.nil_append, List.length_cons]; omega)
    · have e : chunkStep mx M ⟨[], [], hd⟩ (S "") w0 = ⟨[S ""], blk [w0], 0⟩ := by
        unfold chunkStep
        rw [htot, if_neg hle]
        rfl
      have hz : (mx + 1 - hd) / 3 = 0 := by omega
      rw [e, hz]
      cases f with
      | zero => exact absurd hf (by simp)
      | succ f =>
        have ih := fold_blk (M := M) hm ws [w0] [S ""] f (by simpa using hw) (by simp only [List.length_cons, List.length_nil]; omega) (by simp only [List.length_cons] at hf; simp only [List.cons_append, List.nil_append, List.length_cons]; omega)
        rw [ih]
        have e6 : rowsGo (f + 1) M mx 0 (w0 :: ws) = [] :: rowsGo f M mx (mx / 3) (w0 :: ws) := by
          show (if 0 < (w0 :: ws).length then _ else _) = _
          rw [if_pos (by simp), cutW_zero]
          rfl
        rw [e6]
        rfl
end Mine

namespace Mine
open PySem PySem.W PySem.W.X
noncomputable section
noncomputable def kb (N : Nat) : Nat → Nat → KT → Bool
  | _, _, .nil => true
  | s, b, .node v l r => (v.isNone || Nat.blt b N) && (kb N (2 * s) (s + b) l && kb N (2 * s) (2 * s + b) r)
theorem kb_get {N : Nat} : ∀ {t : KT} {s b : Nat}, kb N s b t = true → ∀ {j : Nat} {o : Obj}, t.get j = some o → s * j + b < N
  | .nil, _, _, _, _, _, e => by cases e
  | .node v l r, s, b, H, j, o, e => by
    unfold kb at H
    rw [Bool.and_eq_true, Bool.and_eq_true] at H
    rw [KT.get_node] at e
    by_cases h0 : j = 0
    · subst h0
      rw [if_pos rfl] at e
      subst e
      have h1 : Nat.blt b N = true := H.1
      have : b < N := Nat.le_of_ble_eq_true h1
      omega
    · rw [if_neg h0] at e
      by_cases p : j % 2 = 1
      · rw [if_pos p] at e
        have z := kb_get H.2.1 e
        have : 2 * s * (j / 2) + (s + b) = s * j + b := by
          have hj : j = 2 * (j / 2) + 1 := by omega
          generalize j / 2 = q at hj
          subst hj
          rw [Nat.mul_add, Nat.mul_one, ← Nat.mul_assoc, Nat.mul_comm s 2]; omega
        rw [this] at z; exact z
      · rw [if_neg p] at e
        have z := kb_get H.2.2 e
        have : 2 * s * (j / 2 - 1) + (2 * s + b) = s * j + b := by
          have hj : j = 2 * (j / 2 - 1) + 2 := by omega
          generalize j / 2 - 1 = q at hj
          subst hj
          rw [Nat.mul_add, ← Nat.mul_assoc, Nat.mul_comm s 2]; omega
        rw [this] at z; exact z
theorem top_lt {P : Params} {a : Nat} {o : Obj} (e : (top P).get a = some o) : a < 247 := by
  have h : kb 247 1 0 (top P) = true := by kernel_rfl
  have := kb_get h e
  omega
theorem top_none {P : Params} {a : Nat} (h : 247 ≤ a) : (top P).get a = none := by
  cases e : (top P).get a with
  | none => rfl
  | some o => have := top_lt e; omega
noncomputable def wo (q : List (Nat × Obj)) (a : Nat) : List (Nat × Obj) := q.filter fun p => !Nat.beq p.1 a
theorem mem_wo {q : List (Nat × Obj)} {a : Nat} {p : Nat × Obj} : p ∈ wo q a ↔ p ∈ q ∧ p.1 ≠ a := by
  unfold wo
  rw [List.mem_filter]
  constructor
  · rintro ⟨h1, h2⟩
    refine ⟨h1, fun e => ?_⟩
    rw [e] at h2
    simp at h2
  · rintro ⟨h1, h2⟩
    refine ⟨h1, ?_⟩
    rw [Bool.not_eq_true', ← Bool.not_eq_true]
    exact fun h => h2 (Nat.eq_of_beq_eq_true h)
section
variable {w : World} {V : Vol} {P : Params} {h : Heap} {g : Array GenState} {L q : List (Nat × Obj)} {gs : List (Nat × Code)} {a : Nat} {o : Obj}
theorem Have.perm {L' : List (Nat × Obj)} (H : Have P V h g L q gs) (hp : L.Perm L') : Have P V h g L' q gs :=
  ⟨H.top, fun p hp' => H.has p (hp.mem_iff.mpr hp'), (hp.map _).nodup_iff.mp H.nodup, fun p hp' => H.apart p (hp.mem_iff.mpr hp'), fun p hp' => ⟨(H.gh p hp').1, fun hm => (H.gh p hp').2.1 ((hp.map _).mem_iff.mpr hm), (H.gh p hp').2.2⟩, H.tv, H.big, H.inv, H.gsk⟩
theorem Have.knownTouched (H : Have P V h g L q gs) (hm : (a, o) ∈ q) (ha : 247 ≤ a) : Have P V h g ((a, o) :: L) (wo q a) gs := by
  have y := H.gh _ hm
  refine ⟨H.top, fun p hp => ?_, ?_, fun p hp => ?_, fun p hp => ?_, H.tv, H.big, H.inv, H.gsk⟩
  · rcases List.mem_cons.mp hp with rfl | hp
    · exact y.1
    · exact H.has p hp
  · rw [List.map_cons, List.nodup_cons]
    exact ⟨y.2.1, H.nodup⟩
  · rcases List.mem_cons.mp hp with rfl | hp
    · exact ⟨top_none ha, y.2.2⟩
    · exact H.apart p hp
  · obtain ⟨h1, h2⟩ := mem_wo.mp hp
    have z := H.gh p h1
    refine ⟨z.1, fun hm => ?_, z.2.2⟩
    rw [List.map_cons] at hm
    rcases List.mem_cons.mp hm with e | hm
    · exact h2 e
    · exact z.2.1 hm
theorem After.touchedKnown {h' : Heap} {g' : Array GenState} {L2 : List Obj} {ns nq : List (Nat × Obj)} (H : Have P V h g L q gs) (hm : (a, o) ∈ q) (hl : o.isFreed = false) (Af : After V h ((a, o) :: L) (wo q a) h' g' (o :: L2) ns nq) : After V h L q h' g' L2 ns nq := by
  refine ⟨by simpa using Af.len, fun i p o' e1 e2 hf => Af.here (i + 1) p o' e1 e2 hf, Af.new, Af.newd, fun p hp => ?_, fun b o' e hv hb => ?_, Af.size, Af.inv⟩
  · rcases Af.kn p hp with hq | hq
    · exact .inl (mem_wo.mp hq).1
    · exact .inr hq
  · by_cases hba : b = a
    · subst hba
      have e3 := (H.gh _ hm).1
      rw [e] at e3
      cases e3
      exact Af.here 0 _ _ rfl rfl hl
    · refine Af.keep b o' e hv fun hm => ?_
      rw [List.map_cons] at hm
      rcases List.mem_cons.mp hm with e | hm
      · exact hba e
      · exact hb hm
end
noncomputable def atH (L : List Obj) : Obj := match L with
  | o :: _ => o
  | [] => frO
noncomputable def ctQ (a : Nat) (xs : Array Value) (ep : Nat) (C : Ct) : Ct := ⟨C.lv, fun c L q gs tk post => (a + 247, lstO xs ep) ∈ q ∧ C.pre c ((a + 247, lstO xs ep) :: L) (wo q (a + 247)) gs tk fun r tk' L' ns nq => atH L' = lstO xs ep ∧ post r tk' (L'.drop 1) ns nq⟩
theorem ctQ_ok {w : World} {V : Vol} {C : Ct} {a ep : Nat} {xs : Array Value} (hC : CtOk w V C) : CtOk w V (ctQ a xs ep C) := by
  intro c L q gs tk post ⟨hm, hp⟩ A Q h g d os hr H hQ
  refine hC _ _ _ _ _ _ hp A Q h g d os hr (H.knownTouched hm (Nat.le_add_left _ _)) fun r tk' L' ns nq h' g' hx Af => ?_
  obtain ⟨h1, hx⟩ := hx
  cases L' with
  | nil => exact absurd Af.len (by simp)
  | cons o L2 =>
    obtain rfl : o = lstO xs ep := h1
    exact hQ _ _ _ _ _ _ _ hx (Af.touchedKnown H hm rfl)
noncomputable def ctQL (a : Nat) (xs : Array Value) (ep : Nat) (C : Ct) : Ct := ⟨C.lv, fun c L q gs tk post => (a + 247, lstO xs ep) ∈ q ∧ C.pre c (L ++ [(a + 247, lstO xs ep)]) (wo q (a + 247)) gs tk fun r tk' L' ns nq => atH (L'.drop L.length) = lstO xs ep ∧ post r tk' (L'.take L.length) ns nq⟩
theorem ctQL_ok {w : World} {V : Vol} {C : Ct} {a ep : Nat} {xs : Array Value} (hC : CtOk w V C) : CtOk w V (ctQL a xs ep C) := by
  intro c L q gs tk post ⟨hm, hp⟩ A Q h g d os hr H hQ
  refine hC _ _ _ _ _ _ hp A Q h g d os hr ((H.knownTouched hm (Nat.le_add_left _ _)).perm (List.perm_append_singleton _ _).symm) fun r tk' L' ns nq h' g' hx Af => ?_
  obtain ⟨h1, hx⟩ := hx
  have hl := Af.len
  rw [List.length_append] at hl
  have hl2 : L'.length = L.length + 1 := hl
  obtain ⟨o, hd⟩ : ∃ o, L'.drop L.length = [o] := by
    have : (L'.drop L.length).length = 1 := by rw [List.length_drop]; omega
    exact List.length_eq_one_iff.mp this
  rw [hd] at h1
  obtain rfl : o = lstO xs ep := h1
  have ho : L'[L.length]? = some (lstO xs ep) := by
    have := congrArg (fun l : List Obj => l[0]?) hd
    simpa using this
  refine hQ _ _ _ _ _ _ _ hx (After.touchedKnown (a := a + 247) (o := lstO xs ep) H hm rfl ⟨by rw [List.length_cons, List.length_take, List.length_cons]; omega, fun i p o' e1 e2 hf => ?_, Af.new, Af.newd, fun p hp => Af.kn p hp, fun b o' e hv hb => Af.keep b o' e hv fun hm => hb ?_, Af.size, Af.inv⟩)
  · cases i with
    | zero =>
      cases e1; cases e2
      exact Af.here L.length (a + 247, lstO xs ep) _ (by simp) ho hf
    | succ i =>
      have e1' : L[i]? = some p := e1
      have e2' : (L'.take L.length)[i]? = some o' := e2
      have hi := (List.getElem?_eq_some_iff.mp e1').1
      rw [List.getElem?_take_of_lt hi] at e2'
      exact Af.here i p o' (by rw [List.getElem?_append_left hi]; exact e1') e2' hf
  · simpa [or_comm] using hm
noncomputable def ctN (C : Ct) : Ct := ⟨C.lv, fun c L q gs tk post => C.pre c L q gs tk fun r tk' L' ns nq => post r tk' L' [] (ns ++ nq)⟩
theorem ctN_ok {w : World} {V : Vol} {C : Ct} (hC : CtOk w V C) : CtOk w V (ctN C) := by
  intro c L q gs tk post hp A Q h g d os hr H hQ
  refine hC _ _ _ _ _ _ hp A Q h g d os hr H fun r tk' L' ns nq h' g' hx Af => hQ _ _ _ _ _ _ _ hx ⟨Af.len, Af.here, (fun p hp => nomatch hp), List.nodup_nil, fun p hp => ?_, Af.keep, Af.size, Af.inv⟩
  rcases List.mem_append.mp hp with hp | hp
  · exact .inr ⟨(Af.new p hp).1, (Af.new p hp).2, by simp⟩
  · rcases Af.kn p hp with hq | ⟨h1, h2, h3⟩
    · exact .inl hq
    · exact .inr ⟨h1, h2, by simp⟩
noncomputable def SzIs (xs : Array Value) (k : Nat) : Prop := xs.size = k ∧ k ≤ 1000
noncomputable def llC (x : Nat × Array Value × Nat) : Cl := ⟨.builtin "len" ⟨[.ref (x.1 + 247)], []⟩, [(x.1 + 247, lstO x.2.1 x.2.2)]⟩
noncomputable def ctLLen (k : Nat) : Ct := mkC 14 (fun _ L _ => (lA L 0, oSeq (lO L 0), oEp (lO L 0))) llC fun x q gs tk post =>
  SzIs x.2.1 k ∧ post (.ok (.ret (.int (Int.ofNat k) (tk + 1)))) (tk + 1 + 1) [lstO x.2.1 x.2.2] [] []
theorem ctLLen_ok (w : World) (V : Vol) (k : Nat) : CtOk w V (ctLLen k) := mkC_by fun x q gs tk post hp A Q h g d os hr H hQ => by
  obtain ⟨a', xs, ep⟩ := x
  obtain ⟨⟨hk, hb⟩, hp⟩ := hp
  change xs.size = k at hk
  have ho := H.has _ (List.mem_cons_self ..)
  have hl : h.IsList (a' + 247) xs := ⟨_, ho, rfl, _, rfl⟩
  have hfit : (xs.size : Int) < 2 ^ 63 := by
    have : (2 : Int) ^ 63 = 9223372036854775808 := by decide
    rw [this]; omega
  refine codeAny_builtin entry_len ?_
  rw [Around.under_plainId plain_len _]
  unfold Builtin.«len»
  refine wpAny_bind (m := oneArg "len" _) (wpAny_pure ?_)
  refine wpAny_bind (m := callSpecial? (.ref (a' + 247)) (Str.ofString "__len__")) (wpAny_callSpecial?_slot (name := Str.ofString "__len__") (hl : (⟨h, g, d, tk, os⟩ : Shared).heap.IsList (a' + 247) xs).typeIs slot_list_len
    (wpAny_call_entry slot_list_len (hl : (⟨h, g, d, tk, os⟩ : Shared).heap.IsList (a' + 247) xs).typeIs entry_list_len ?_ (args_list_len _)))
  show wpAny _ _ (do retInt (← seqSize (a' + 247))) _ _ _
  unfold seqSize
  refine wpAny_bind (wpAny_bind (wpAny_load ho ?_))
  refine wpAny_pure (wpAny_bind (wpAny_mkInt (wpAny_pure ⟨_, rfl, ?_⟩)))
  refine wpAny_bind (wpAny_holding (wpAny_pure ?_))
  refine wpAny_bind (wpAny_letGo ?_)
  show wpAny _ _ (if ((xs.size : Nat) : Int) < 0 then _ else _) _ _ _
  rw [if_neg (by omega)]
  show wpAny _ _ (if ((xs.size : Nat) : Int) ≥ 2 ^ 63 then _ else _) _ _ _
  rw [if_neg (by omega)]
  have e : ((xs.size : Nat) : Int) = Int.ofNat k := by rw [hk]; rfl
  rw [e]
  exact wpAny_bind (wpAny_mkInt (wpAny_pure (hQ _ _ _ _ _ _ _ hp H.same)))
noncomputable def Div3 (a b : Int) (k : Nat) : Prop := b = 3 ∧ a / 3 = Int.ofNat k
noncomputable def ctFd (k : Nat) : Ct := ctInt 128106770130096871752080967664072486762 fun l X => kII l fun x y => Div3 x y k ∧ X (Int.ofNat k)
theorem ctFd_ok (w : World) (V : Vol) (k : Nat) : CtOk w V (ctFd k) := ctInt_ok w V (s := "int.__floordiv__") (by decide +kernel) (by decide +kernel) PySem.F.entry_int_floordiv fun l X h => by
  obtain ⟨a, t, b, u, rfl, ⟨rfl, hk⟩, h2⟩ := kII_e h
  have z := AutoIntG4.int___floordiv___int_int_1 a t 3 u (by decide) (by
    have e : Nat.log2 3 / 30 + 1 = 1 := by decide +kernel
    unfold Builtin.divisionGoesByPylong
    simp [e])
  rw [Int.fdiv_eq_ediv_of_nonneg a (by decide : (0 : Int) ≤ 3), hk] at z
  exact ⟨_, z, h2⟩
noncomputable def rkC (m : Nat) (t : Nat) : Cl := ⟨.builtin "range.__new__" ⟨[.type "range", .int (Int.ofNat m) t], []⟩, []⟩
noncomputable def ctKNew (m : Nat) : Ct := mkC 4 (fun c _ _ => vT (arg c 1)) (rkC m) fun x q gs tk post =>
  m ≤ 1000 ∧ ∀ r : Nat, post (.ok (.ret (.ref (r + 247)))) (tk + 1 + 1) [] [(r + 247, rgO 0 (Int.ofNat m) 1 tk x (tk + 1))] []
theorem ctKNew_ok (w : World) (V : Vol) (m : Nat) : CtOk w V (ctKNew m) := mkC_by fun t q gs tk post hp A Q h g d os hr H hQ => by
  obtain ⟨hk, hp⟩ := hp
  refine codeAny_builtin PySem.F.entry_range_new ?_
  rw [Around.under_plainId (by decide +kernel) _]
  refine AutoRange.range___new___type_int_0 (Int.ofNat m) t PySem.F.called_range.sub PW w A Q _ ?_
  have hr' := hp (h.objs.size - 247)
  rw [Nat.sub_add_cancel H.big] at hr'
  exact hQ _ _ _ _ _ _ _ hr' (H.push rfl)
noncomputable def ruO (i n : Int) : Obj := { cls := .type "range_iterator", data := .fields #[.int i 0, .int n 0, .int 1 0] }
noncomputable def kiC (m : Nat) (x : Nat × Nat × Nat × Nat) : Cl := ⟨.builtin "range.__iter__" ⟨[.ref (x.1 + 247)], []⟩, [(x.1 + 247, rgO 0 (Int.ofNat m) 1 x.2.1 x.2.2.1 x.2.2.2)]⟩
noncomputable def ctKIter (m : Nat) : Ct := mkC 4 (fun c L _ => (lA L 0, vT (atV (oFld (lO L 0)) 0), vT (atV (oFld (lO L 0)) 1), vT (atV (oFld (lO L 0)) 2))) (kiC m) fun x q gs tk post =>
  m ≤ 1000 ∧ ∀ n : Nat, post (.ok (.ret (.ref (n + 247)))) tk [rgO 0 (Int.ofNat m) 1 x.2.1 x.2.2.1 x.2.2.2] [(n + 247, ruO 0 (Int.ofNat m))] []
theorem rsizeU (m : Nat) : Builtin.Range.rangeSize 0 (Int.ofNat m) 1 = Int.ofNat m := by
  unfold Builtin.Range.rangeSize
  have h1 : ((1 : Int) > 0) := by decide
  rw [if_pos h1]
  split
  · show (((m : Nat) : Int) - 0 - 1) / 1 + 1 = ((m : Nat) : Int)
    rw [Int.ediv_one]
    omega
  · rename_i h
    have h2 : ¬ (((m : Nat) : Int) > 0) := h
    show (0 : Int) = ((m : Nat) : Int)
    omega
theorem ctKIter_ok (w : World) (V : Vol) (m : Nat) : CtOk w V (ctKIter m) := mkC_by fun x q gs tk post hp A Q h g d os hr H hQ => by
  obtain ⟨r', t, u, v⟩ := x
  obtain ⟨hk, hp⟩ := hp
  have hh := H.has _ (List.mem_cons_self ..)
  refine codeAny_builtin PySem.F.entry_range_iter ?_
  rw [Around.under_plainId (by decide +kernel) _]
  have hf : ∀ x : Int, -10000 ≤ x → x ≤ 10000 → Builtin.Range.rangeFitsLong x = true := fun x h1 h2 => by
    unfold Builtin.Range.rangeFitsLong
    have : (2 : Int) ^ 63 = 9223372036854775808 := by decide
    rw [this]
    simp only [Bool.and_eq_true, decide_eq_true_eq]
    omega
  have hk' : Int.ofNat m = ((m : Nat) : Int) := rfl
  have hs : (Builtin.Range.rangeFitsLong 0 && Builtin.Range.rangeFitsLong (Int.ofNat m) && Builtin.Range.rangeFitsLong 1 && Builtin.Range.rangeFitsLong (Builtin.Range.rangeSize 0 (Int.ofNat m) 1) && (Builtin.Range.rangeSize 0 (Int.ofNat m) 1 == 0 || if (1 : Int) > 0 then Builtin.Range.rangeFitsLong (Int.ofNat m + (1 - 1)) else Builtin.Range.rangeFitsLong (Int.ofNat m + (1 + 1)))) = true := by
    rw [rsizeU, hf (Int.ofNat m) (by rw [hk']; omega) (by rw [hk']; omega), hf 0 (by omega) (by omega), hf 1 (by omega) (by omega)]
    simp only [Bool.and_self, Bool.true_and, Bool.or_eq_true]
    right
    rw [if_pos (by decide)]
    exact hf _ (by rw [hk']; omega) (by rw [hk']; omega)
  refine AutoRange.range___iter___range_1 (r' + 247) 0 (Int.ofNat m) 1 t u v (by rw [hs]; decide) PW w A Q _ ⟨hh, ?_⟩
  have hr' := hp (h.objs.size - 247)
  rw [Nat.sub_add_cancel H.big] at hr'
  rw [hs, if_pos rfl, rsizeU]
  exact hQ _ _ _ _ _ _ _ hr' (H.push rfl)
end
end Mine

namespace Mine
open PySem PySem.W PySem.W.X
open Sem (wp)
noncomputable section
noncomputable def SelfIt (o : Obj) : Prop := o.cls = .type "range_iterator" ∨ o.cls = .type "list_iterator" ∨ o.cls = .type "str_ascii_iterator"
theorem iter_self {w : World} {A : Around} {E : Value → Shared → Prop} {s : Shared} {I : Nat} {o : Obj} {Q : Value → Shared → Prop} (ho : s.heap.get? I = some o) (hs : SelfIt o) (h : Q (.ref I) s) : wpAny (model PW w) A (pyIter (.ref I)) Q E s := by
  rcases hs with hc | hc | hc
  · have hT : s.TypeIs (.ref I) "range_iterator" := ⟨_, ho, hc⟩
    refine wpAny_pyIter_slot hT F.slot_range_iterator_iter (wpAny_call_entry F.slot_range_iterator_iter hT F.entry_range_iterator_iter ?_ (F.args_range_iterator_iter_1 _))
    show wpAny _ _ (ret (.ref I)) _ _ s
    exact wpAny_pure ⟨_, rfl, "range_iterator", _, hT, F.slot_range_iterator_next.lookup, h⟩
  · have hT : s.TypeIs (.ref I) "list_iterator" := ⟨_, ho, hc⟩
    refine wpAny_pyIter_slot hT slot_listiter_iter (wpAny_call_entry slot_listiter_iter hT entry_listiter_iter ?_ (args_listiter_iter _))
    show wpAny _ _ (ret (.ref I)) _ _ s
    exact wpAny_pure ⟨_, rfl, "list_iterator", _, hT, slot_listiter_next.lookup, h⟩
  · have hT : s.TypeIs (.ref I) "str_ascii_iterator" := ⟨_, ho, hc⟩
    refine wpAny_pyIter_slot hT F.slot_str_ascii_iterator_iter (wpAny_call_entry F.slot_str_ascii_iterator_iter hT F.entry_str_ascii_iterator_iter ?_ (F.args_str_ascii_iterator_iter_1 _))
    show wpAny _ _ (ret (.ref I)) _ _ s
    exact wpAny_pure ⟨_, rfl, "str_ascii_iterator", _, hT, F.slot_str_ascii_iterator_next.lookup, h⟩
noncomputable def selfB (o : Obj) : Bool := match o.cls with
  | .type s => Nat.beq (PySem.code s) (PySem.code "range_iterator") || (Nat.beq (PySem.code s) (PySem.code "list_iterator") || Nat.beq (PySem.code s) (PySem.code "str_ascii_iterator"))
  | _ => false
theorem selfB_of {o : Obj} (h : selfB o = true) : SelfIt o := by
  unfold selfB at h
  split at h
  · rename_i s e
    simp only [Bool.or_eq_true] at h
    rcases h with h | h | h
    · exact .inl (e.trans (by rw [PySem.code_inj _ _ (Nat.eq_of_beq_eq_true h)]))
    · exact .inr (.inl (e.trans (by rw [PySem.code_inj _ _ (Nat.eq_of_beq_eq_true h)])))
    · exact .inr (.inr (e.trans (by rw [PySem.code_inj _ _ (Nat.eq_of_beq_eq_true h)])))
  · cases h
noncomputable def plainLC (e : Expr) : Bool := match e with
  | .ListComp _ (⟨_, _, _, 0⟩ :: _) _ _ => true
  | _ => false
noncomputable def ctS (C : Ct) : Ct := ⟨C.lv, fun c L q gs tk post => match c with
  | .compStart e 0 (.ref I) (.ref A) env => kc L fun _ L1 => kc L1 fun p _ => (p.1 = I ∧ plainLC e = true ∧ selfB p.2 = true) ∧ C.pre (.compLoop e 0 (.ref I) (.ref A) env) L q gs tk post
  | _ => False⟩
theorem ctS_ok {w : World} {V : Vol} {C : Ct} (hC : CtOk w V C) : CtOk w V (ctS C) := by
  intro c L q gs tk post hp A Q h g d os hr H hQ
  simp only [ctS] at hp
  split at hp
  case h_2 => exact hp.elim
  rename_i e I Ac env
  obtain ⟨x, L1, rfl, hp⟩ := kc_e hp
  obtain ⟨⟨I', io⟩, L2, rfl, ⟨h1, he, hs⟩, hp⟩ := kc_e hp
  have z := hC _ _ _ _ _ _ hp A Q h g d os hr H hQ
  obtain rfl : I' = I := h1
  have hI := H.has (I', io) (List.mem_cons_of_mem _ (List.mem_cons_self ..))
  unfold plainLC at he
  split at he
  · rename_i elt target iter ifs rest scope pos
    exact codeAny_compStart_list z (iter_self hI (selfB_of hs) z)
  · cases he
noncomputable def compX (elt target iter t : Expr) (it acc : Value) (env : Env) (c : Code) : Sem PySem.Fin :=
  (do
    standAt iter.pos
    let r ← PySem.W.ZFast.zw9404975358583537561 it
    match r with
    | none => pure (.done .next)
    | some v => do
      letOwnedTupleGo target it v
      PySem.W.ZFast.zw17772580674575903948 target env v
      let b ← isTrueX t env
      match b with
      | true => do
        let x ← evalT elt env
        let _ ← call (.builtin "list.append") [acc, x]
        again c
      | false => again c : Sem PySem.Fin).onRaise (fun x => do noteFrame x env; theTreesLotGoes x)
section
variable {w : World} {B : Around}
theorem Le.compX (hB : Rm B) {elt target iter t : Expr} {scope : Scope} {pos : Pos} {it acc : Value} {env : Env} :
    Le w B (.compLoop (.ListComp elt [⟨target, iter, [t], 0⟩] scope pos) 0 it acc env) (denote table (.compLoop (.ListComp elt [⟨target, iter, [t], 0⟩] scope pos) 0 it acc env))
      (Mine.compX elt target iter t it acc env (.compLoop (.ListComp elt [⟨target, iter, [t], 0⟩] scope pos) 0 it acc env)) := by
  show Le w B _ ((compTurn (.ListComp elt [⟨target, iter, [t], 0⟩] scope pos) 0 it acc env).onRaise _) _
  unfold Mine.compX
  refine Le.onRaise ?_
  rw [compTurn_list]
  refine Le.bind (Le.refl _) fun _ => Le.bind (Le.of_eq (by rw [← PySem.W.ZFast.ze9404975358583537561])) fun r => ?_
  cases r with
  | none => exact Le.refl _
  | some v =>
    refine Le.bind (Le.refl _) fun _ => Le.bind (Le.of_eq (by rw [← PySem.W.ZFast.ze17772580674575903948])) fun _ => ?_
    intro Γ p Q E s hc hi x
    simp only [List.forIn_cons, List.forIn_nil, if_true]
    rw [Sem.wp_bind'] at x ⊢
    rw [Sem.wp_bind', Sem.wp_bind']
    refine Sem.wp_mono _ _ _ (fun ok p1 s1 y => ?_) (fun _ _ _ y => y) p s (Le.isTrueX hB t env Γ p _ _ s hc hi x)
    cases ok with
    | false => exact y
    | true =>
      show wp _ Γ ((eval elt env >>= fun x => call (.builtin "list.append") [acc, x] >>= fun _ => pure ()) >>= fun _ => again _) Q E p1 s1
      rw [Sem.wp_bind', Sem.wp_bind']
      dsimp only at y
      rw [← evalT_eq] at y
      rw [Sem.wp_bind'] at y
      refine Sem.wp_mono _ _ _ (fun v p2 s2 y2 => ?_) (fun _ _ _ y => y) p1 s1 y
      rw [Sem.wp_bind'] at y2 ⊢
      refine Sem.wp_mono _ _ _ (fun v p3 s3 y3 => ?_) (fun _ _ _ y => y) p2 s2 y2
      exact y3
end
theorem mkC_okX {w : World} {V : Vol} {lv : Nat} {X : Type} {view : Code → List (Nat × Obj) → List (Nat × Code) → X} {cl : X → Cl} {ok : X → List (Nat × Obj) → List (Nat × Code) → Nat → Post → Prop} (lim : Nat) (hl : Nat.ble lim lv = true)
    (H : ∀ (x : X) q gs tk post, ok x q gs tk post → ∃ elt target iter t scope pos it acc env, (cl x).c = .compLoop (.ListComp elt [⟨target, iter, [t], 0⟩] scope pos) 0 it acc env ∧ ∀ n gz, RunsT w V lim (cl x).c (compX elt target iter t it acc env (cl x).c) (cl x).L q gs tk n gz post) : CtOk w V (mkC lv view cl ok) :=
  mkC_by fun x q gs tk post hp A Q h g d os hr hH hQ => by
    obtain ⟨elt, target, iter, t, scope, pos, it, acc, env, e, z⟩ := H x q gs tk post hp
    obtain ⟨hk, hc, hs, sl, sq, j, z⟩ := z (h.objs.size - 247) g.size
    have hl' := Nat.le_of_ble_eq_true hl
    have m := run_mn (w := w) (V := V) (A := A) (d := d) (os := os) hl' hc hk hr hH hQ z
    rw [e] at m ⊢
    refine codeAny_of_Mn ?_
    have h1 := hr.depth
    have h2 := hr.units
    have h6 : (Code.compLoop (.ListComp elt [⟨target, iter, [t], 0⟩] scope pos) 0 it acc env).weight ≤ 2 := weight_le (c := .compLoop (.ListComp elt [⟨target, iter, [t], 0⟩] scope pos) 0 it acc env) rfl
    have hB : Rm ((arK A .base).under (.compLoop (.ListComp elt [⟨target, iter, [t], 0⟩] scope pos) 0 it acc env)) := ⟨by show A.depth + (Code.compLoop (.ListComp elt [⟨target, iter, [t], 0⟩] scope pos) 0 it acc env).weight < 1000; omega, by show A.units + 0 < 9900; omega⟩
    intro Γ p hc hΓ
    exact Le.compX hB Γ p _ _ _ hc (hc ▸ hΓ.in) (m Γ p hc hΓ)
section
variable {α : Type}
theorem kO_m {x : Option α} {K K' : α → Prop} (h : kO x K) (m : ∀ a, K a → K' a) : kO x K' := by
  cases x with
  | none => exact h
  | some a => exact m _ h
theorem kc_m {l : List α} {K K' : α → List α → Prop} (h : kc l K) (m : ∀ a l, K a l → K' a l) : kc l K' := by
  cases l with
  | nil => exact h
  | cons a l => exact m _ _ h
theorem k0_m {l : List α} {K K' : Prop} (h : k0 l K) (m : K → K') : k0 l K' := by
  cases l with
  | nil => exact m h
  | cons a l => exact h
theorem kR_m {v : Value} {K K' : Nat → Prop} (h : kR v K) (m : ∀ a, K a → K' a) : kR v K' := by
  cases v with
  | ref a => exact m _ h
  | _ => exact h
theorem kQ_m {o : Obj} {K K' : Array Value → (Array Value → Nat → Obj) → Prop} (h : kQ o K) (m : ∀ xs F, K xs F → K' xs F) : kQ o K' := by
  obtain ⟨c, d, dt, sl⟩ := o
  cases dt with
  | seq xs ep => exact m _ _ h
  | _ => exact h
end
theorem sRR_m {n : Nat} {c : Code} {L : List (Nat × Obj)} {K K' : Nat → Nat → Array Value → (Array Value → Nat → Obj) → Obj → Prop} (h : sRR n c L K) (m : ∀ a s xs F o, K a s xs F o → K' a s xs F o) : sRR n c L K' :=
  kO_m h fun _ h => kc_m h fun _ _ h => kc_m h fun _ _ h => k0_m h fun h => kR_m h fun _ h => kR_m h fun _ h => kc_m h fun _ _ h => kc_m h fun _ _ h => k0_m h fun h => kQ_m h fun _ _ h => ⟨h.1, h.2.1, m _ _ _ _ _ h.2.2⟩
noncomputable def SzLe (xs : Array Value) (n : Nat) : Prop := xs.size ≤ n
noncomputable def SliceOf (xs : Array Value) (lo hi : Option Int) (z : Array Value) : Prop := z = slicePick xs lo hi none
noncomputable def ctSlc : Ct := ⟨4, fun c L q gs tk post => sRR nGet c L fun a s xs F so => kO (sliceOf so) fun b => SzLe xs 1000 ∧ ∀ (r : Nat) (z : Array Value), SliceOf xs b.1 b.2 z → post (.ok (.ret (.ref (r + 247)))) tk (L.map Prod.snd) [(r + 247, lstO z 0)] []⟩
theorem ctSlc_ok (w : World) (V : Vol) : CtOk w V ctSlc := by
  intro c L q gs tk post h
  refine ctSlice_ok w V c L q gs tk post ?_
  dsimp only [ctSlc] at h
  dsimp only [ctSlice]
  exact sRR_m h fun a s xs F o h => kO_m h fun b h => ⟨Nat.le_trans h.1 (by decide), fun r => h.2 r _ rfl⟩
noncomputable def Full (z : Array Value) (v : Bool) : Prop := decide (z.size ≠ 0) = v
noncomputable def neC (x : Nat × Array Value × Nat × Nat × Nat) : Cl := ⟨.builtin "list.__ne__" ⟨[.ref (x.1 + 247), .ref (x.2.2.2.1 + 247)], []⟩, [(x.1 + 247, lstO x.2.1 x.2.2.1), (x.2.2.2.1 + 247, lstO #[] x.2.2.2.2)]⟩
noncomputable def ctNeE (v : Bool) : Ct := mkC 4 (fun _ L _ => (lA L 0, oSeq (lO L 0), oEp (lO L 0), lA L 1, oEp (lO L 1))) neC fun x q gs tk post => Full x.2.1 v ∧ post (.ok (.ret (.bool v))) tk [lstO x.2.1 x.2.2.1, lstO #[] x.2.2.2.2] [] []
theorem ctNeE_ok (w : World) (V : Vol) (v : Bool) : CtOk w V (ctNeE v) := mkC_by fun x q gs tk post hp A Q h g d os hr H hQ => by
  obtain ⟨a, z, ep2, b, ep⟩ := x
  obtain ⟨hf, hp⟩ := hp
  have hz := H.has _ (List.mem_cons_self ..)
  have ho := H.has _ (List.mem_cons_of_mem _ (List.mem_cons_self ..))
  refine codeAny_builtin PySem.F.entry_list_ne ?_
  rw [Around.under_plainId (by decide +kernel) _]
  change decide (z.size ≠ 0) = v at hf
  by_cases h0 : z.size = 0
  · have e : z = #[] := by simpa using h0
    subst e
    have hv : v = false := by rw [← hf]; simp
    subst hv
    refine PySem.SeqAt.list_neAt (a + 247) (b + 247) #[] #[] ep2 ep none none #[] #[] rfl (fun _ => true) PW w A Q _ ⟨hz, ho, fun j h1 => absurd h1 (by simp), ?_⟩
    exact hQ _ _ _ _ _ _ _ hp H.same
  · have hv : v = true := by rw [← hf]; simpa using h0
    subst hv
    refine PySem.SeqAt.list_ne_lengthsAt (a + 247) (b + 247) z #[] ep2 ep none none #[] #[] (by simpa using h0) PW w A Q _ ⟨hz, ho, ?_⟩
    exact hQ _ _ _ _ _ _ _ hp H.same
noncomputable def CatOf (xs ys z : Array Value) : Prop := z = xs ++ ys
noncomputable def laC (x : Nat × Array Value × Nat × Nat × Array Value × Nat) : Cl := ⟨.builtin "list.__add__" ⟨[.ref (x.1 + 247), .ref (x.2.2.2.1 + 247)], []⟩, [(x.1 + 247, lstO x.2.1 x.2.2.1), (x.2.2.2.1 + 247, lstO x.2.2.2.2.1 x.2.2.2.2.2)]⟩
noncomputable def ctLAdd : Ct := mkC 4 (fun _ L _ => (lA L 0, oSeq (lO L 0), oEp (lO L 0), lA L 1, oSeq (lO L 1), oEp (lO L 1))) laC fun x q gs tk post => SzLe x.2.1 1000 ∧ SzLe x.2.2.2.2.1 1000 ∧ ∀ (r : Nat) (z : Array Value), CatOf x.2.1 x.2.2.2.2.1 z → post (.ok (.ret (.ref (r + 247)))) tk [lstO x.2.1 x.2.2.1, lstO x.2.2.2.2.1 x.2.2.2.2.2] [(r + 247, lstO z 0)] []
theorem ctLAdd_ok (w : World) (V : Vol) : CtOk w V ctLAdd := mkC_by fun x q gs tk post hp A Q h g d os hr H hQ => by
  obtain ⟨a, xs, ep, b, ys, ep2⟩ := x
  obtain ⟨h1, h2, hp⟩ := hp
  have ho := H.has _ (List.mem_cons_self ..)
  have ho2 := H.has _ (List.mem_cons_of_mem _ (List.mem_cons_self ..))
  refine codeAny_builtin PySem.F.entry_list_add ?_
  rw [Around.under_plainId (by decide +kernel) _]
  have h24 : sizeLine = 16777216 := rfl
  change xs.size ≤ 1000 at h1
  change ys.size ≤ 1000 at h2
  refine AutoSeq1.list___add___list_list_0 (a + 247) xs ep (b + 247) ys ep2 (by omega) PW w A Q _ ⟨ho, ho2, ?_⟩
  have hr' := hp (h.objs.size - 247) _ rfl
  rw [Nat.sub_add_cancel H.big] at hr'
  exact hQ _ _ _ _ _ _ _ hr' (H.push rfl)
noncomputable def IntGe (a b : Int) (V : Bool) : Prop := decide (a ≥ b) = V
noncomputable def ctGe (b : Bool) : Ct := ctPure 455125449040517733379946 fun l X => kII l fun x y => IntGe x y b ∧ X (.bool b)
theorem ctGe_ok (w : World) (V : Vol) (b : Bool) : CtOk w V (ctGe b) := ctPure_ok w V (s := "int.__ge__") (by decide +kernel) (by decide +kernel) PySem.F.entry_int_ge fun l X h => by
  obtain ⟨x, t, y, u, rfl, h1, h2⟩ := kII_e h
  have := gives_int_ge x y t u
  rw [h1] at this
  exact ⟨_, this, h2⟩
noncomputable def ctNeS (b : Bool) : Ct := ctPure 455125451010842570225012 fun l X => kSS l fun x y => TextEq x y (!b) ∧ X (.bool b)
theorem ctNeS_ok (w : World) (V : Vol) (b : Bool) : CtOk w V (ctNeS b) := ctPure_ok w V (s := "str.__ne__") (by decide +kernel) (by decide +kernel) PySem.F.entry_str_ne fun l X h => by
  obtain ⟨x, t, y, u, rfl, h1, h2⟩ := kSS_e h
  have := gives_str_ne x y t u
  have e2 : (x.cps.toList != y.cps.toList) = b := by rw [bne, show (x.cps.toList == y.cps.toList) = !b from h1]; simp
  rw [e2] at this
  exact ⟨_, this, h2⟩
noncomputable def mlC (x : Nat × Value × Nat × Nat) : Cl := ⟨.builtin "list.__mul__" ⟨[.ref (x.1 + 247), .int 2 x.2.2.2], []⟩, [(x.1 + 247, lstO #[x.2.1] x.2.2.1)]⟩
noncomputable def ctMul2 : Ct := mkC 4 (fun c L _ => (lA L 0, atV (oFld (lO L 0)) 0, oEp (lO L 0), vT (arg c 1))) mlC fun x q gs tk post => ∀ r : Nat, post (.ok (.ret (.ref (r + 247)))) tk [lstO #[x.2.1] x.2.2.1] [(r + 247, lstO #[x.2.1, x.2.1] 0)] []
theorem ctMul2_ok (w : World) (V : Vol) : CtOk w V ctMul2 := mkC_by fun x q gs tk post hp A Q h g d os hr H hQ => by
  obtain ⟨a, v, ep, t⟩ := x
  have ho := H.has _ (List.mem_cons_self ..)
  refine codeAny_builtin PySem.F.entry_list_mul ?_
  rw [Around.under_plainId (by decide +kernel) _]
  refine AutoListH.list___mul___list_int_3 (a + 247) #[v] ep 2 t (by decide) (by simp) (by simp [Builtin.List.listTooLong]; decide) PW w A Q _ ⟨ho, ?_⟩
  have hr' := hp (h.objs.size - 247)
  rw [Nat.sub_add_cancel H.big] at hr'
  exact hQ _ _ _ _ _ _ _ hr' (H.push rfl)
noncomputable def NumsOf (xs : Array Value) (l : List Int) : Prop := ∃ ts : List Nat, ts.length = l.length ∧ xs = (List.zipWith (fun x t => Value.int x t) l ts).toArray
theorem NumsOf.push {xs : Array Value} {l : List Int} (h : NumsOf xs l) (x : Int) (t : Nat) : NumsOf (xs.push (.int x t)) (l ++ [x]) := by
  obtain ⟨ts, h1, rfl⟩ := h
  refine ⟨ts ++ [t], by simp [h1], ?_⟩
  rw [List.zipWith_append h1.symm]
  simp
theorem NumsOf.size {xs : Array Value} {l : List Int} (h : NumsOf xs l) : xs.size = l.length := by
  obtain ⟨ts, h1, rfl⟩ := h
  simp [h1]
theorem NumsOf.empty : NumsOf #[] [] := ⟨[], rfl, rfl⟩
noncomputable def noE : Expr := .Constant .none 0 ⟨0, 0, 0, 0⟩
noncomputable def valE (s : Stmt) : Expr := match s with
  | .Assign _ v _ => v
  | .Return (some v) _ => v
  | .Expr v _ => v
  | _ => noE
noncomputable def whTest (s : Stmt) : Expr := match s with
  | .While t _ _ _ => t
  | _ => noE
noncomputable def whBody (s : Stmt) : List Stmt := match s with
  | .While _ b _ _ => b
  | _ => []
noncomputable def whElse (s : Stmt) : List Stmt := match s with
  | .While _ _ b _ => b
  | _ => []
noncomputable def lcElt (e : Expr) : Expr := match e with
  | .ListComp x _ _ _ => x
  | _ => noE
noncomputable def lcScope (e : Expr) : Scope := match e with
  | .ListComp _ _ s _ => s
  | _ => ⟨.function, [], false, false, []⟩
noncomputable def subV (e : Expr) : Expr := match e with
  | .Subscript v _ _ => v
  | _ => noE
noncomputable def binL (e : Expr) : Expr := match e with
  | .BinOp l _ _ _ => l
  | _ => noE
noncomputable def binR (e : Expr) : Expr := match e with
  | .BinOp _ _ r _ => r
  | _ => noE
noncomputable def arg0 (e : Expr) : Expr := match e with
  | .Call _ (a :: _) _ _ => a
  | _ => noE
noncomputable def defScope (s : Stmt) : Scope := match s with
  | .FunctionDef _ _ _ _ _ _ sc _ _ _ => sc
  | _ => ⟨.function, [], false, false, []⟩
noncomputable def cfScope (s : Scope) : Scope := { s with names := s.names.map fun x => match x.2 with
  | .free => (x.1, .cell)
  | _ => x }
noncomputable def rwBody : List Stmt := bodyOf (stm 64)
noncomputable def rwWh : Stmt := nthS rwBody 1
noncomputable def eCuts : Expr := valE (nthS (whBody rwWh) 0)
noncomputable def eK : Expr := subV (lcElt eCuts)
noncomputable def eSel : Expr := subV (binL (valE (nthS (whBody rwWh) 1)))
noncomputable def eRow : Expr := binR (valE (nthS rwBody 3))
noncomputable def eWord : Expr := arg0 (lcElt eRow)
noncomputable def lcCode (e : Expr) (I A : Nat) (env : Env) : Code := .compLoop e 0 (.ref I) (.ref A) env
noncomputable def lcEnv (e : Expr) (lo : Nat) (cl : List (Str × Addr)) (qu : Str) (cd : Value) (fr : Option Addr) : Env := ⟨cfScope (lcScope e), lo, 3, cl, qu, none, cd, fr, 0⟩
noncomputable def whCode (s : Stmt) (env : Env) : Code := .whileLoop (whTest s) (whBody s) (whElse s) env
noncomputable def dcO (l : List DictEntry) (ep : Nat) : Obj := { cls := .type "dict", data := .dict ⟨l⟩ ep }
noncomputable def clO (v : Value) : Obj := { cls := .type "cell", data := .cell (some v) }
noncomputable def lwBody : List Stmt := bodyOf (stm 65)
noncomputable def tupE (e : Expr) (i : Nat) : Expr := match e with
  | .Tuple l _ _ => l.getD i noE
  | _ => noE
noncomputable def boolE (e : Expr) (i : Nat) : Expr := match e with
  | .BoolOp _ l _ => l.getD i noE
  | _ => noE
noncomputable def cmpR (e : Expr) : Expr := match e with
  | .Compare _ _ (r :: _) _ => r
  | _ => noE
noncomputable def ifT (s : Stmt) : Expr := match s with
  | .If t _ _ _ => t
  | _ => noE
noncomputable def eSym : Expr := valE (nthS lwBody 0)
noncomputable def eWrd : Expr := tupE (valE (nthS lwBody 1)) 0
noncomputable def eRead : Expr := valE (nthS lwBody 4)
noncomputable def eNum : Expr := cmpR (boolE (ifT (nthS lwBody 5)) 1)
noncomputable def eKind : Expr := valE (nthS lwBody 6)
noncomputable def eOth : Expr := valE (nthS lwBody 7)
noncomputable def eNeN : Expr := cmpR (boolE (valE (nthS lwBody 8)) 0)
noncomputable def eEqN : Expr := cmpR (boolE (valE (nthS lwBody 8)) 1)
end
end Mine

namespace Mine
open PySem PySem.W PySem.W.X
noncomputable section
structure Lx where
  lo : Nat
  I : Nat
  A : Nat
  p : Nat
  k : Nat
  qu : Str
  cd : Value
  fr : Nat
  ys : Array Value
  ep : Nat
  xs : Array Value
  epx : Nat
  τ : Nat
  v : Value
  τ2 : Nat
  v2 : Value
  ee : Nat
noncomputable def cpEnv : Code → Env
  | .compLoop _ _ _ _ env => env
  | _ => cEnv (.builtin "" ⟨[], []⟩)
noncomputable def frN : Option Addr → Nat
  | some a => a
  | none => 0
noncomputable def lxS (c : Code) (L : List (Nat × Obj)) : Lx := ⟨lA L 0, lA L 1, lA L 2, lA L 3, (vI (atV (oFld (lO L 1)) 1)).toNat, (cpEnv c).qual, (cpEnv c).code, frN (cpEnv c).frame, oSeq (lO L 2), oEp (lO L 2), oSeq (lO L 3), oEp (lO L 3), eT (lO L 0) 0, eV (lO L 0) 0, eT (lO L 0) 1, eV (lO L 0) 1, oEp (lO L 0)⟩
noncomputable def frO2 (P : Params) (F : List String) (x : Lx) : Obj := match F with
  | [] => dcO [] x.ee
  | [a] => dcO [eZ P a x.τ x.v] x.ee
  | a :: b :: _ => dcO [eZ P a x.τ x.v, eZ P b x.τ2 x.v2] x.ee
noncomputable def lxC (P : Params) (ex : Expr) (F : List String) (x : Lx) : Cl := ⟨lcCode ex (x.I + 247) (x.A + 247) (lcEnv ex (x.lo + 247) [] x.qu x.cd (some x.fr)), [(x.lo + 247, frO2 P F x), (x.I + 247, liO (x.p + 247) x.k), (x.A + 247, lstO x.ys x.ep), (x.p + 247, lstO x.xs x.epx)]⟩
noncomputable def Lx.set (x : Lx) (τ τ2 ee : Nat) (v v2 : Value) : Lx := { x with τ := τ, v := v, τ2 := τ2, v2 := v2, ee := ee }
noncomputable def frX {α : Type} (P : Params) (F F1 : List String) (rem : List α) (x : Lx) (τ τ2 ee : Nat) (v v2 : Value) : Obj := match F with
  | [] => match rem with
    | [] => dcO [] x.ee
    | _ :: _ => frO2 P F1 (x.set τ τ2 ee v v2)
  | _ :: _ => frO2 P F1 (x.set τ τ2 ee v v2)
theorem frX_cons {α : Type} {P : Params} {F F1 : List String} {rem : List α} {y : α} {x : Lx} {τ τ2 ee : Nat} {v v2 : Value} : frX P F F1 (y :: rem) x τ τ2 ee v v2 = frO2 P F1 (x.set τ τ2 ee v v2) := by cases F <;> rfl
noncomputable def Few {α : Type} (l r : List α) : Prop := l.length + r.length ≤ 200
noncomputable def FewQ {α : Type} (nq : List (Nat × Obj)) (r : List α) : Prop := nq.length ≤ 4 * r.length
noncomputable abbrev Srs (α : Type) := Array Value → Nat → List α → List (Nat × Obj) → Prop
noncomputable abbrev Acs (α : Type) := Array Value → List α → List (Nat × Obj) → Prop
noncomputable def LpOk {α : Type} (P : Params) (F1 F : List String) (src : Srs α) (acc : Acs α) (done rem : List α) (x : Lx) (q : List (Nat × Obj)) (gs : List (Nat × Code)) (post : Post) : Prop :=
  src x.xs x.k rem q ∧ acc x.ys done q ∧ Few done rem ∧ gs = [] ∧ ∀ (tk' ep' : Nat) (ys' : Array Value) (τ' σ' ee' : Nat) (v' u' : Value) (io' : Obj) (nq : List (Nat × Obj)), acc ys' (done ++ rem) (nq ++ q) → FewQ nq rem → post (.ok .next) tk' [frX P F F1 rem x τ' σ' ee' v' u', io', lstO ys' ep', lstO x.xs x.epx] [] nq
noncomputable def ctL {α : Type} (P : Params) (lv : Nat) (ex : Expr) (F1 F : List String) (src : Srs α) (acc : Acs α) (done rem : List α) : Ct := mkC lv (fun c L _ => lxS c L) (lxC P ex F) fun x q gs tk post => LpOk P F1 F src acc done rem x q gs post
theorem lpEnd (w : World) (V : Vol) {elt target iter : Expr} {ifs : List Expr} {rest : List Comprehension} {scope : Scope} {pos : Pos} {env : Env} {lo I A p k ep epx tk n gz : Nat} {fo : Obj} {ys xs : Array Value} {q : List (Nat × Obj)} {post : Post} (hk : xs.size ≤ k)
    (hq : ∀ (tk' : Nat) (io' : Obj), post (.ok .next) tk' [fo, io', lstO ys ep, lstO xs epx] [] []) :
    Runs w V 20 (.compLoop (.ListComp elt (⟨target, iter, ifs, 0⟩ :: rest) scope pos) 0 (.ref (I + 247)) (.ref (A + 247)) env) [(lo + 247, fo), (I + 247, liO (p + 247) k), (A + 247, lstO ys ep), (p + 247, lstO xs epx)] q [] tk n gz post := by
  exact .go1 sub0 (c1 (ctLEnd_ok w V)) [3,0,3,2,0,2,1,3,7] [] [] 0 (by kernel_rfl) (by kernel_rfl) (ai (r7 [I,I]) (ai (rf (lnC ((I, p, k, { cls := Value.type "list", data := Data.seq xs epx })))) (ai (rf true) (ai hk (fun (n1 n' gz' : Nat) => ai (r7 [n1 + 1]) (hq tk ({ cls := Value.type "list_iterator", data := Data.fields #[Value.none, Value.int (Int.ofNat k) 0] })))))))
theorem lpEnd1 (w : World) (V : Vol) {elt target iter : Expr} {ifs : List Expr} {g0 : Comprehension} {rest : List Comprehension} {scope : Scope} {pos : Pos} {env : Env} {lo I A p k ep epx tk n gz : Nat} {fo : Obj} {ys xs : Array Value} {q : List (Nat × Obj)} {post : Post} (hk : xs.size ≤ k)
    (hq : ∀ (tk' : Nat) (io' : Obj), post (.ok .next) tk' [fo, io', lstO ys ep, lstO xs epx] [] []) :
    Runs w V 20 (.compLoop (.ListComp elt (g0 :: ⟨target, iter, ifs, 0⟩ :: rest) scope pos) 1 (.ref (I + 247)) (.ref (A + 247)) env) [(lo + 247, fo), (I + 247, liO (p + 247) k), (A + 247, lstO ys ep), (p + 247, lstO xs epx)] q [] tk n gz post := by
  exact .go1 sub0 (c1 (ctLEnd_ok w V)) [3,0,3,2,0,2,1,3,7] [] [] 0 (by kernel_rfl) (by kernel_rfl) (ai (r7 [I,I]) (ai (rf (lnC ((I, p, k, { cls := Value.type "list", data := Data.seq xs epx })))) (ai (rf true) (ai hk (fun (n1 n' gz' : Nat) => ai (r7 [n1 + 1]) (hq tk ({ cls := Value.type "list_iterator", data := Data.fields #[Value.none, Value.int (Int.ofNat k) 0] })))))))
section
variable {α : Type} (w : World) (V : Vol) {lv : Nat} {ex : Expr} {src : Srs α} {acc : Acs α} (hl : Nat.ble 20 lv = true) (hex : ∃ elt target iter ifs rest scope pos, ex = .ListComp elt (⟨target, iter, ifs, 0⟩ :: rest) scope pos) (hs : ∀ xs k q, src xs k [] q → xs.size ≤ k)
include hl hex hs
theorem ctL_end {a : String} {l : List String} {F : List String} (hF : F = [] ∨ F = a :: l) (done : List α) : CtOk w V (ctL w.params lv ex (a :: l) F src acc done []) := mkC_ok 20 hl fun x q gs tk post h n gz => by
  obtain ⟨h1, h2, h3, rfl, hq⟩ := h
  obtain ⟨elt, target, iter, ifs, rest, scope, pos, he⟩ := hex
  show Runs w V 20 (.compLoop ex 0 (.ref (x.I + 247)) (.ref (x.A + 247)) (lcEnv ex (x.lo + 247) [] x.qu x.cd (some x.fr))) _ _ _ _ _ _ _
  generalize lcEnv ex (x.lo + 247) [] x.qu x.cd (some x.fr) = env
  rw [he]
  rcases hF with rfl | rfl
  · exact lpEnd w V (hs _ _ _ h1) fun tk' io' => hq _ _ _ 0 0 0 .none .none _ [] (by rw [List.append_nil]; exact h2) (Nat.zero_le _)
  · exact lpEnd w V (hs _ _ _ h1) fun tk' io' => hq _ _ _ x.τ x.τ2 x.ee x.v x.v2 _ [] (by rw [List.append_nil]; exact h2) (Nat.zero_le _)
theorem ctL_ok {a : String} {l : List String} (hT : ∀ F, F = [] ∨ F = a :: l → ∀ done y rem, CtOk w V (ctL w.params lv ex (a :: l) (a :: l) src acc (done ++ [y]) rem) → CtOk w V (ctL w.params lv ex (a :: l) F src acc done (y :: rem))) : ∀ (rem : List α) (F : List String), F = [] ∨ F = a :: l → ∀ done, CtOk w V (ctL w.params lv ex (a :: l) F src acc done rem)
  | [], F, hF, done => ctL_end w V hl hex hs hF done
  | y :: rem, F, hF, done => hT F hF done y rem (ctL_ok hT rem _ (.inr rfl) _)
end
end
end Mine

namespace Mine
open PySem PySem.W PySem.W.X
noncomputable section
noncomputable def Words (xs : Array Value) (l : List Str) : Prop := TextsOf xs l ∧ ∀ x ∈ l, ∃ a b, x = ⟨#[a, b]⟩
theorem words_at {ws : Array Value} {l : List Str} {j : Nat} (h : Words ws l) (hj : j < l.length) : ∃ a b t, ws[j]? = some (.str ⟨#[a, b]⟩ t) ∧ l[j]? = some ⟨#[a, b]⟩ := by
  obtain ⟨⟨ts, h1, rfl⟩, h2⟩ := h
  obtain ⟨a, b, e⟩ := h2 l[j] (List.getElem_mem hj)
  refine ⟨a, b, ts[j]'(by omega), ?_, ?_⟩
  · rw [List.getElem?_toArray, List.getElem?_zipWith, List.getElem?_eq_getElem hj, List.getElem?_eq_getElem (by omega : j < ts.length)]
    simp [e]
  · rw [List.getElem?_eq_getElem hj, e]
theorem words_size {ws : Array Value} {l : List Str} (h : Words ws l) : ws.size = l.length := h.1.size
noncomputable def RestOf (xs : Array Value) (k : Nat) (vs : List Value) : Prop := xs.toList.drop k = vs
theorem rest_cons {xs : Array Value} {k : Nat} {v : Value} {vs : List Value} (h : RestOf xs k (v :: vs)) : xs[k]? = some v ∧ RestOf xs (k + 1) vs := by
  unfold RestOf at *
  constructor
  · rw [← Array.getElem?_toList]
    have : (xs.toList.drop k)[0]? = some v := by rw [h]; rfl
    rwa [List.getElem?_drop, Nat.add_zero] at this
  · rw [show k + 1 = k + 1 from rfl, ← List.drop_drop (i := 1) (j := k)] <;> simp [h]
theorem rest_nil {xs : Array Value} {k : Nat} (h : RestOf xs k []) : xs.size ≤ k := by
  unfold RestOf at h
  have := congrArg List.length h
  rw [List.length_drop, Array.length_toList] at this
  simp at this
  omega
noncomputable def DropOf (L0 : List Str) (k : Nat) (l : List Str) : Prop := L0.drop k = l
theorem textsNil : TextsOf #[] [] := ⟨[], rfl, rfl⟩
theorem drop_cons {L0 l : List Str} {k : Nat} {x : Str} (h : DropOf L0 k (x :: l)) : L0[k]? = some x ∧ DropOf L0 (k + 1) l ∧ k < L0.length := by
  unfold DropOf at *
  have h0 : L0[k]? = some x := by
    have : (L0.drop k)[0]? = some x := by rw [h]; rfl
    rwa [List.getElem?_drop, Nat.add_zero] at this
  refine ⟨h0, ?_, (List.getElem?_eq_some_iff.mp h0).1⟩
  rw [← List.drop_drop (i := 1) (j := k), h]
  rfl
theorem drop_nil {L0 : List Str} {k : Nat} (h : DropOf L0 k []) : L0.length ≤ k := by
  unfold DropOf at h
  exact List.drop_eq_nil_iff.mp h
noncomputable def SrcInts (xs : Array Value) (k : Nat) (l : List Int) (q : List (Nat × Obj)) : Prop := ∃ all, NumsOf xs all ∧ all.drop k = l
noncomputable def SymsOf : List Value → List Int → List (Nat × Obj) → Prop
  | [], [], _ => True
  | .ref a :: vs, x :: l, q => (∃ t u, (a, symO x t u) ∈ q) ∧ 247 ≤ a ∧ SymsOf vs l q
  | _, _, _ => False
noncomputable def AccSyms (ys : Array Value) (l : List Int) (q : List (Nat × Obj)) : Prop := SymsOf ys.toList l q
noncomputable def SrcSyms (xs : Array Value) (k : Nat) (l : List Int) (q : List (Nat × Obj)) : Prop := SymsOf (xs.toList.drop k) l q
noncomputable def AccWords (ys : Array Value) (l : List Int) (q : List (Nat × Obj)) : Prop := TextsOf ys (l.map fun x => (symOf x).2)
noncomputable def AccNums (ys : Array Value) (l : List Int) (q : List (Nat × Obj)) : Prop := NumsOf ys (l.map fun x => (symOf x).1)
noncomputable def BoolsOf : List Value → List (Bool × Bool) → List (Nat × Obj) → Prop
  | [], [], _ => True
  | .ref a :: vs, x :: l, q => (∃ ep, (a, lstO #[.bool x.1, .bool x.2] ep) ∈ q) ∧ 247 ≤ a ∧ BoolsOf vs l q
  | _, _, _ => False
noncomputable def isT (n : Int) : Bool := decide (n < 256)
noncomputable def AccKinds (ys : Array Value) (l : List Int) (q : List (Nat × Obj)) : Prop := BoolsOf ys.toList (l.map fun n => (isT n, isT n)) q
noncomputable def AccOth (ys : Array Value) (l : List Int) (q : List (Nat × Obj)) : Prop := BoolsOf ys.toList (l.map fun n => (!isT n, !isT n)) q
noncomputable def SrcTexts (xs : Array Value) (k : Nat) (l : List Str) (q : List (Nat × Obj)) : Prop := ∃ all, Words xs all ∧ all.drop k = l
noncomputable def isN (x : Str) : Bool := x.cps.toList.head? == some 110
noncomputable def AccNeN (ys : Array Value) (l : List Str) (q : List (Nat × Obj)) : Prop := BoolsOf ys.toList (l.map fun x => (!isN x, !isN x)) q
noncomputable def AccEqN (ys : Array Value) (l : List Str) (q : List (Nat × Obj)) : Prop := BoolsOf ys.toList (l.map fun x => (isN x, isN x)) q
theorem srcInts_cons {xs : Array Value} {k : Nat} {x : Int} {l : List Int} {q : List (Nat × Obj)} (h : SrcInts xs k (x :: l) q) : (∃ t, AtN xs k (.int x t)) ∧ ∀ q', SrcInts xs (k + 1) l q' := by
  obtain ⟨all, h1, h2⟩ := h
  have h0 : all[k]? = some x := by
    have : (all.drop k)[0]? = some x := by rw [h2]; rfl
    rwa [List.getElem?_drop, Nat.add_zero] at this
  have h4 : ∀ q', SrcInts xs (k + 1) l q' := fun q' => ⟨all, h1, by rw [← List.drop_drop (i := 1) (j := k), h2]; rfl⟩
  refine ⟨?_, h4⟩
  obtain ⟨ts, h3, rfl⟩ := h1
  have hk := (List.getElem?_eq_some_iff.mp h0).1
  have hx := (List.getElem?_eq_some_iff.mp h0).2
  refine ⟨ts[k]'(by omega), ?_⟩
  unfold AtN
  rw [List.getElem?_toArray, List.getElem?_zipWith, h0, List.getElem?_eq_getElem (by omega : k < ts.length)]
theorem srcInts_nil {xs : Array Value} {k : Nat} {q : List (Nat × Obj)} (h : SrcInts xs k [] q) : xs.size ≤ k := by
  obtain ⟨all, h1, h2⟩ := h
  rw [h1.size]
  exact List.drop_eq_nil_iff.mp h2
theorem srcTexts_cons {xs : Array Value} {k : Nat} {x : Str} {l : List Str} {q : List (Nat × Obj)} (h : SrcTexts xs k (x :: l) q) : (∃ a b t, x = ⟨#[a, b]⟩ ∧ AtN xs k (.str ⟨#[a, b]⟩ t)) ∧ ∀ q', SrcTexts xs (k + 1) l q' := by
  obtain ⟨all, h1, h2⟩ := h
  obtain ⟨hx, hd, hk⟩ := drop_cons (show DropOf all k (x :: l) from h2)
  obtain ⟨a, b, t, h3, h4⟩ := words_at h1 hk
  rw [hx] at h4
  cases h4
  exact ⟨⟨a, b, t, rfl, h3⟩, fun q' => ⟨all, h1, hd⟩⟩
theorem srcTexts_nil {xs : Array Value} {k : Nat} {q : List (Nat × Obj)} (h : SrcTexts xs k [] q) : xs.size ≤ k := by
  obtain ⟨all, h1, h2⟩ := h
  rw [words_size h1]
  exact drop_nil h2
theorem SymsOf.mono {q q' : List (Nat × Obj)} (hq : ∀ p ∈ q, p ∈ q') : ∀ {vs : List Value} {l : List Int}, SymsOf vs l q → SymsOf vs l q'
  | [], [], _ => trivial
  | .ref a :: vs, x :: l, ⟨⟨t, u, h1⟩, h3, h4⟩ => ⟨⟨t, u, hq _ h1⟩, h3, SymsOf.mono hq h4⟩
theorem SymsOf.snoc {q : List (Nat × Obj)} {a t u : Nat} {x : Int} (hm : (a + 247, symO x t u) ∈ q) : ∀ {vs : List Value} {l : List Int}, SymsOf vs l q → SymsOf (vs ++ [.ref (a + 247)]) (l ++ [x]) q
  | [], [], _ => ⟨⟨t, u, hm⟩, Nat.le_add_left _ _, trivial⟩
  | .ref a :: vs, y :: l, ⟨h1, h3, h4⟩ => ⟨h1, h3, SymsOf.snoc hm h4⟩
theorem SymsOf.length {q : List (Nat × Obj)} : ∀ {vs : List Value} {l : List Int}, SymsOf vs l q → vs.length = l.length
  | [], [], _ => rfl
  | .ref a :: vs, y :: l, ⟨h1, h3, h4⟩ => by rw [List.length_cons, List.length_cons, SymsOf.length h4]
theorem BoolsOf.mono {q q' : List (Nat × Obj)} (hq : ∀ p ∈ q, p ∈ q') : ∀ {vs : List Value} {l : List (Bool × Bool)}, BoolsOf vs l q → BoolsOf vs l q'
  | [], [], _ => trivial
  | .ref a :: vs, x :: l, ⟨⟨ep, h1⟩, h3, h4⟩ => ⟨⟨ep, hq _ h1⟩, h3, BoolsOf.mono hq h4⟩
theorem BoolsOf.snoc {q : List (Nat × Obj)} {a ep : Nat} {x : Bool × Bool} (hm : (a + 247, lstO #[.bool x.1, .bool x.2] ep) ∈ q) : ∀ {vs : List Value} {l : List (Bool × Bool)}, BoolsOf vs l q → BoolsOf (vs ++ [.ref (a + 247)]) (l ++ [x]) q
  | [], [], _ => ⟨⟨ep, hm⟩, Nat.le_add_left _ _, trivial⟩
  | .ref a :: vs, y :: l, ⟨h1, h3, h4⟩ => ⟨h1, h3, BoolsOf.snoc hm h4⟩
theorem BoolsOf.length {q : List (Nat × Obj)} : ∀ {vs : List Value} {l : List (Bool × Bool)}, BoolsOf vs l q → vs.length = l.length
  | [], [], _ => rfl
  | .ref a :: vs, y :: l, ⟨h1, h3, h4⟩ => by rw [List.length_cons, List.length_cons, BoolsOf.length h4]
theorem few_next {α : Type} {done rem : List α} {x : α} (h : Few done (x :: rem)) : Few (done ++ [x]) rem := by
  unfold Few at *
  simp only [List.length_append, List.length_cons, List.length_nil] at *
  omega
theorem few_ys {α : Type} {done rem : List α} {n : Nat} (h : Few done rem) (hn : n = done.length) : n ≤ 1000000 := by
  unfold Few at h
  omega
theorem fewq_take {α : Type} {l : List (Nat × Obj)} {rem : List α} {x : α} {j : Nat} (hj : j = 4 * (rem.length + 1)) : FewQ (takeL j l) (x :: rem) := by
  unfold FewQ
  rw [List.length_cons, ← hj]
  exact takeL_len
theorem in_take {α : Type} {A B q : List (Nat × Obj)} {rem : List α} {p : Nat × Obj} (h1 : FewQ A rem) (hB : B.length ≤ 4) (h : p ∈ A ++ (B ++ q)) : p ∈ takeL (4 * (rem.length + 1)) (A ++ (B ++ q)) ++ q := by
  have e : A ++ (B ++ q) = (A ++ B) ++ q := by simp
  rw [e] at h ⊢
  unfold FewQ at h1
  rcases List.mem_append.mp h with h | h
  · refine List.mem_append_left _ (takeL_in ?_ h)
    simp only [List.length_append]
    omega
  · exact List.mem_append_right _ h
theorem drop_app {α : Type} (l r : List α) (x : α) : l ++ [x] ++ r = l ++ (x :: r) := by simp
theorem srcSyms_cons {xs : Array Value} {k : Nat} {x : Int} {l : List Int} {q : List (Nat × Obj)} (h : SrcSyms xs k (x :: l) q) : ∃ a t u, AtN xs k (.ref (a + 247)) ∧ (a + 247, symO x t u) ∈ q ∧ ∀ q', (∀ p ∈ q, p ∈ q') → SrcSyms xs (k + 1) l q' := by
  unfold SrcSyms at h
  cases e : xs.toList.drop k with
  | nil => rw [e] at h; exact h.elim
  | cons v vs =>
    rw [e] at h
    cases v with
    | ref a =>
      obtain ⟨⟨t, u, h1⟩, h3, h4⟩ := h
      obtain ⟨a, rfl⟩ := Nat.exists_eq_add_of_le' h3
      obtain ⟨r1, r2⟩ := rest_cons (show RestOf xs k (.ref (a + 247) :: vs) from e)
      exact ⟨a, t, u, r1, h1, fun q' hq => by unfold SrcSyms; rw [show xs.toList.drop (k + 1) = vs from r2]; exact h4.mono hq⟩
    | _ => exact h.elim
theorem srcSyms_nil {xs : Array Value} {k : Nat} {q : List (Nat × Obj)} (h : SrcSyms xs k [] q) : xs.size ≤ k := by
  unfold SrcSyms at h
  cases e : xs.toList.drop k with
  | nil => exact rest_nil (show RestOf xs k [] from e)
  | cons v vs => rw [e] at h; cases v <;> exact h.elim
end
end Mine

namespace Mine
open PySem PySem.W PySem.W.X
noncomputable section
theorem loopA (w : World) (V : Vol) : ∀ (rem : List Int) (F : List String), F = [] ∨ F = ["x"] → ∀ done, CtOk w V (ctL w.params 90 eSym ["x"] F SrcInts AccSyms done rem) := ctL_ok w V rfl ⟨_, _, _, _, _, _, _, rfl⟩ (fun _ _ _ h => srcInts_nil h) fun F hF done y rem hC => mkC_ok 90 rfl fun x q gs tk post h n gz => by
  obtain ⟨hsrc0, hacc, hfw0, rfl, hq⟩ := h
  obtain ⟨⟨t1, hat⟩, hsrc⟩ := srcInts_cons hsrc0
  have hys : x.ys.size ≤ 1000000 := few_ys hfw0 (by have := hacc.length; rwa [Array.length_toList] at this)
  have hfw := few_next hfw0
  have ha1 : ∀ (a t u : Nat) (i : Int) (s : Str), SymIs y i s → AccSyms (x.ys.push (.ref (a + 247))) (done ++ [y]) ([(a + 247, lstO #[.int i t, .str s u] 0)] ++ q) := fun a t u i s ⟨e1, e2⟩ => by
    subst e1 e2
    unfold AccSyms
    rw [Array.toList_push]
    exact SymsOf.snoc (List.mem_cons_self ..) (SymsOf.mono (fun p hp => List.mem_cons_of_mem _ hp) hacc)
  replace hq : ∀ (tk' ep' : Nat) (ys' : Array Value) (τ' ee' : Nat) (v' : Value) (io' : Obj) (nq : List (Nat × Obj)) (p : Nat × Obj), AccSyms ys' (done ++ [y] ++ rem) (nq ++ ([p] ++ q)) → FewQ nq rem → post (.ok .next) tk' [dcO [eZ w.params "x" τ' v'] ee', io', lstO ys' ep', lstO x.xs x.epx] [] ([] ++ takeL (4 * (rem.length + 1)) (nq ++ ([p] ++ q))) := fun tk' ep' ys' τ' ee' v' io' nq p h1 h2 =>
    by have z := hq tk' ep' ys' τ' 0 ee' v' .none io' _ (by rw [← drop_app]; exact SymsOf.mono (fun p hp => in_take h2 (by simp) hp) h1) (fewq_take rfl); rw [frX_cons] at z; exact z
  obtain ⟨lo, I, A, p, k, qu, cd, fr, ys, ep, xs, epx, τ, v, τ2, v2, ee⟩ := x
  rcases hF with rfl | rfl
  · exact .go1 sub0 (cC (ctLNext_ok w V (.int y t1)) <| cC (ctSym_ok w V) <| cC (ctApp_ok w V) <| c1 hC) [3,0,3,2,0,2,1,3,2,2,0,2,0,2,1,0,0,4,2,2,1,2,2,3,4,0,1,2,3] [] [] (4 * (rem.length + 1)) (by kernel_rfl) (by kernel_rfl) (ai (r7 [I,I]) (ai (rf (lnC ((I, p, k, { cls := Value.type "list", data := Data.seq xs epx })))) (ai (rf true) (ai hat (fun (n' gz' : Nat) => ai (r7 [lo,lo,lo]) (ai (rf (syC ((y, t1)))) (ai (rf ([] : List (Nat × Code))) (fun (n1 tk' t' u' : Nat) (i : Int) (s : Str) (x : SymIs y i s) (n'1 gz'1 : Nat) => ai (r7 [A]) (ai (rf (A + 247)) (ai hys (fun (ep' n'2 gz'2 : Nat) => ai (r7 []) (ai (rf (lxC w.params (((Expr.Name (Str.ofString "_law_symbol") { line := 213, col := 15, endLine := 213, endCol := 26 }).Call [Expr.Name (Str.ofString "x") { line := 213, col := 27, endLine := 213, endCol := 28 }] [] { line := 213, col := 15, endLine := 213, endCol := 29 }).ListComp [{ target := Expr.Name (Str.ofString "x") { line := 213, col := 34, endLine := 213, endCol := 35 }, iter := ((Expr.Name (Str.ofString "script") { line := 213, col := 39, endLine := 213, endCol := 45 }).Subscript (Expr.Slice (some (Expr.Constant (Const.int 2) 0 { line := 213, col := 46, endLine := 213, endCol := 47 })) (some (Expr.Constant (Const.int 6) 0 { line := 213, col := 48, endLine := 213, endCol := 49 })) none { line := 213, col := 46, endLine := 213, endCol := 49 }) { line := 213, col := 39, endLine := 213, endCol := 50 }).BinOp Operator.Add (Expr.List [Expr.Constant (Const.int 0) 0 { line := 213, col := 54, endLine := 213, endCol := 55 }, Expr.Constant (Const.int 6) 0 { line := 213, col := 57, endLine := 213, endCol := 58 }, Expr.Constant (Const.int 4) 0 { line := 213, col := 60, endLine := 213, endCol := 61 }, Expr.Constant (Const.int 17) 0 { line := 213, col := 63, endLine := 213, endCol := 65 }, Expr.Constant (Const.int 19) 0 { line := 213, col := 67, endLine := 213, endCol := 69 }, Expr.Constant (Const.int 15) 0 { line := 213, col := 71, endLine := 213, endCol := 73 }, Expr.Constant (Const.int 1) 0 { line := 213, col := 75, endLine := 213, endCol := 76 }, Expr.Constant (Const.int 5) 0 { line := 213, col := 78, endLine := 213, endCol := 79 }, Expr.Constant (Const.int 9) 0 { line := 213, col := 81, endLine := 213, endCol := 82 }, Expr.Constant (Const.int 20) 0 { line := 213, col := 84, endLine := 213, endCol := 86 }] { line := 213, col := 53, endLine := 213, endCol := 87 }) { line := 213, col := 39, endLine := 213, endCol := 87 }, ifs := [], is_async := 0 }] { kind := ScopeKind.function, names := [(Str.ofString ".0", NameKind.local), (Str.ofString "x", NameKind.local), (Str.ofString "_law_symbol", NameKind.globalImplicit)], isGenerator := false, isCoroutine := false } { line := 213, col := 14, endLine := 213, endCol := 88 }) ["x"] ⟨lo, I, A, p, k + 1, qu, cd, fr, ys.push (Value.ref (n1 + 247)), ep', xs, epx, tk, Value.int y t1, 0, Value.none, ee + 1⟩)) (ai (hsrc ([(n1 + 247, { cls := Value.type "list", data := Data.seq #[Value.int i t', Value.str s u'] })] ++ q)) (ai (ha1 n1 t' u' i s x) (ai hfw (ai (rf ([] : List (Nat × Code))) (fun (tk'1 : Nat) (ep'1 : Nat) (ys' : Array Value) (τ' : Nat) (σ' : Nat) (ee' : Nat) (v' : Value) (u'1 : Value) (io' : Obj) (nq : List (Nat × Obj)) (x1 : AccSyms ys' (done ++ [y] ++ rem) (nq ++ ([(n1 + 247, { cls := Value.type "list", data := Data.seq #[Value.int i t', Value.str s u'] })] ++ q))) => fun (x2 : FewQ nq rem) (n'3 gz'3 : Nat) => hq tk'1 ep'1 ys' τ' ee' v' io' nq ((n1 + 247, { cls := Value.type "list", data := Data.seq #[Value.int i t', Value.str s u'] })) x1 x2)))))))))))))))))
  · exact .go1 sub0 (cC (ctLNext_ok w V (.int y t1)) <| cC (ctSym_ok w V) <| cC (ctApp_ok w V) <| c1 hC) [3,0,3,2,0,2,1,3,2,2,0,2,0,2,1,0,0,4,2,2,1,2,2,3,4,0,1,2,3] [] [] (4 * (rem.length + 1)) (by kernel_rfl) (by kernel_rfl) (ai (r7 [I,I]) (ai (rf (lnC ((I, p, k, { cls := Value.type "list", data := Data.seq xs epx })))) (ai (rf true) (ai hat (fun (n' gz' : Nat) => ai (r7 [lo,lo,lo]) (ai (rf (syC ((y, t1)))) (ai (rf ([] : List (Nat × Code))) (fun (n1 tk' t' u' : Nat) (i : Int) (s : Str) (x : SymIs y i s) (n'1 gz'1 : Nat) => ai (r7 [A]) (ai (rf (A + 247)) (ai hys (fun (ep' n'2 gz'2 : Nat) => ai (r7 []) (ai (rf (lxC w.params (((Expr.Name (Str.ofString "_law_symbol") { line := 213, col := 15, endLine := 213, endCol := 26 }).Call [Expr.Name (Str.ofString "x") { line := 213, col := 27, endLine := 213, endCol := 28 }] [] { line := 213, col := 15, endLine := 213, endCol := 29 }).ListComp [{ target := Expr.Name (Str.ofString "x") { line := 213, col := 34, endLine := 213, endCol := 35 }, iter := ((Expr.Name (Str.ofString "script") { line := 213, col := 39, endLine := 213, endCol := 45 }).Subscript (Expr.Slice (some (Expr.Constant (Const.int 2) 0 { line := 213, col := 46, endLine := 213, endCol := 47 })) (some (Expr.Constant (Const.int 6) 0 { line := 213, col := 48, endLine := 213, endCol := 49 })) none { line := 213, col := 46, endLine := 213, endCol := 49 }) { line := 213, col := 39, endLine := 213, endCol := 50 }).BinOp Operator.Add (Expr.List [Expr.Constant (Const.int 0) 0 { line := 213, col := 54, endLine := 213, endCol := 55 }, Expr.Constant (Const.int 6) 0 { line := 213, col := 57, endLine := 213, endCol := 58 }, Expr.Constant (Const.int 4) 0 { line := 213, col := 60, endLine := 213, endCol := 61 }, Expr.Constant (Const.int 17) 0 { line := 213, col := 63, endLine := 213, endCol := 65 }, Expr.Constant (Const.int 19) 0 { line := 213, col := 67, endLine := 213, endCol := 69 }, Expr.Constant (Const.int 15) 0 { line := 213, col := 71, endLine := 213, endCol := 73 }, Expr.Constant (Const.int 1) 0 { line := 213, col := 75, endLine := 213, endCol := 76 }, Expr.Constant (Const.int 5) 0 { line := 213, col := 78, endLine := 213, endCol := 79 }, Expr.Constant (Const.int 9) 0 { line := 213, col := 81, endLine := 213, endCol := 82 }, Expr.Constant (Const.int 20) 0 { line := 213, col := 84, endLine := 213, endCol := 86 }] { line := 213, col := 53, endLine := 213, endCol := 87 }) { line := 213, col := 39, endLine := 213, endCol := 87 }, ifs := [], is_async := 0 }] { kind := ScopeKind.function, names := [(Str.ofString ".0", NameKind.local), (Str.ofString "x", NameKind.local), (Str.ofString "_law_symbol", NameKind.globalImplicit)], isGenerator := false, isCoroutine := false } { line := 213, col := 14, endLine := 213, endCol := 88 }) ["x"] ⟨lo, I, A, p, k + 1, qu, cd, fr, ys.push (Value.ref (n1 + 247)), ep', xs, epx, τ, Value.int y t1, 0, Value.none, ee⟩)) (ai (hsrc ([(n1 + 247, { cls := Value.type "list", data := Data.seq #[Value.int i t', Value.str s u'] })] ++ q)) (ai (ha1 n1 t' u' i s x) (ai hfw (ai (rf ([] : List (Nat × Code))) (fun (tk'1 : Nat) (ep'1 : Nat) (ys' : Array Value) (τ' : Nat) (σ' : Nat) (ee' : Nat) (v' : Value) (u'1 : Value) (io' : Obj) (nq : List (Nat × Obj)) (x1 : AccSyms ys' (done ++ [y] ++ rem) (nq ++ ([(n1 + 247, { cls := Value.type "list", data := Data.seq #[Value.int i t', Value.str s u'] })] ++ q))) => fun (x2 : FewQ nq rem) (n'3 gz'3 : Nat) => hq tk'1 ep'1 ys' τ' ee' v' io' nq ((n1 + 247, { cls := Value.type "list", data := Data.seq #[Value.int i t', Value.str s u'] })) x1 x2)))))))))))))))))
theorem loopB (w : World) (V : Vol) : ∀ (rem : List Int) (F : List String), F = [] ∨ F = ["number", "word"] → ∀ done, CtOk w V (ctL w.params 90 eWrd ["number", "word"] F SrcSyms AccWords done rem) := ctL_ok w V rfl ⟨_, _, _, _, _, _, _, rfl⟩ (fun _ _ _ h => srcSyms_nil h) fun F hF done y rem hC => mkC_ok 90 rfl fun x q gs tk post h n gz => by
  obtain ⟨hsrc0, hacc, hfw0, rfl, hq⟩ := h
  obtain ⟨t0, ts, us, hat, hm, hsr⟩ := srcSyms_cons hsrc0
  have hsrc := hsr q fun p hp => hp
  have hys : x.ys.size ≤ 1000000 := few_ys hfw0 (by have := hacc.size; rwa [List.length_map] at this)
  have hfw := few_next hfw0
  have ha1 : ∀ t : Nat, AccWords (x.ys.push (.str (symOf y).2 t)) (done ++ [y]) q := fun t => by
    unfold AccWords
    rw [List.map_append]
    exact TextsOf.push hacc _ _
  replace hq : ∀ (tk' ep' : Nat) (ys' : Array Value) (τ' σ' ee' : Nat) (v' u' : Value) (io' : Obj) (nq : List (Nat × Obj)), AccWords ys' (done ++ [y] ++ rem) (nq ++ q) → post (.ok .next) tk' [dcO [eZ w.params "number" τ' v', eZ w.params "word" σ' u'] ee', io', lstO ys' ep', lstO x.xs x.epx] [] [] := fun tk' ep' ys' τ' σ' ee' v' u' io' nq h1 =>
    by have z := hq tk' ep' ys' τ' σ' ee' v' u' io' [] (by rw [← drop_app]; exact h1) (Nat.zero_le _); rw [frX_cons] at z; exact z
  obtain ⟨lo, I, A, p, k, qu, cd, fr, ys, ep, xs, epx, τ, v, τ2, v2, ee⟩ := x
  rcases hF with rfl | rfl
  · exact .go1 (subC hm sub0) (cC (ctLNext_ok w V (.ref (t0 + 247))) <| cC (ctApp_ok w V) <| c1 hC) [3,0,3,2,0,2,1,3,3,1,0,1,0,1,0,0,1,0,0,6,6,0,6,0,6,6,1,0,6,6,6,0,6,0,6,6,1,0,6,6,6,0,6,0,6,6,1,0,6,6,8,2,2,2,2,2,0,4,2,1,1,2,2,2,4,0,1,2,3] [] [] 0 (by kernel_rfl) (by kernel_rfl) (ai (r7 [I,I]) (ai (rf (lnC ((I, p, k, { cls := Value.type "list", data := Data.seq xs epx })))) (ai (rf true) (ai hat (fun (n' gz' : Nat) => ai (r7 [A,lo,lo,lo,lo,lo,n' + 2,n',n',t0,n',n',n',n',n',n',t0,n',n',n',n',n',n',t0,n',n',n',n',n',t0,t0,t0,t0,I]) (ai (rf (A + 247)) (ai hys (fun (ep' n'1 gz'1 : Nat) => ai (r7 []) (ai (rf (lxC w.params ((Expr.Name (Str.ofString "word") { line := 214, col := 26, endLine := 214, endCol := 30 }).ListComp [{ target := Expr.Tuple [Expr.Name (Str.ofString "number") { line := 214, col := 35, endLine := 214, endCol := 41 }, Expr.Name (Str.ofString "word") { line := 214, col := 43, endLine := 214, endCol := 47 }] 0 { line := 214, col := 35, endLine := 214, endCol := 47 }, iter := Expr.Name (Str.ofString "symbols") { line := 214, col := 51, endLine := 214, endCol := 58 }, ifs := [], is_async := 0 }] { kind := ScopeKind.function, names := [(Str.ofString ".0", NameKind.local), (Str.ofString "number", NameKind.local), (Str.ofString "word", NameKind.local)], isGenerator := false, isCoroutine := false } { line := 214, col := 25, endLine := 214, endCol := 59 }) ["number", "word"] ⟨lo, I, A, p, k + 1, qu, cd, fr, ys.push (Value.str (symOf y).2 us), ep', xs, epx, tk, Value.int (symOf y).fst ts, tk + 1, Value.str (symOf y).2 us, ee + 2⟩)) (ai hsrc (ai (ha1 us) (ai hfw (ai (rf ([] : List (Nat × Code))) (fun (tk' ep'1 : Nat) (ys' : Array Value) (τ' σ' ee' : Nat) (v' u' : Value) (io' : Obj) (nq : List (Nat × Obj)) (x : AccWords ys' (done ++ [y] ++ rem) (nq ++ q)) (x1 : FewQ nq rem) (n'2 gz'2 : Nat) => hq tk' ep'1 ys' τ' σ' ee' v' u' io' nq x))))))))))))))
  · exact .go1 (subC hm sub0) (cC (ctLNext_ok w V (.ref (t0 + 247))) <| cC (ctApp_ok w V) <| c1 hC) [3,0,3,2,0,2,1,3,3,1,0,1,0,1,0,0,1,0,0,6,6,0,6,0,6,6,1,0,6,6,6,0,6,0,6,6,1,0,6,6,6,0,6,0,6,6,1,0,6,6,8,2,2,2,2,2,0,4,2,1,1,2,2,2,4,0,1,2,3] [] [] 0 (by kernel_rfl) (by kernel_rfl) (ai (r7 [I,I]) (ai (rf (lnC ((I, p, k, { cls := Value.type "list", data := Data.seq xs epx })))) (ai (rf true) (ai hat (fun (n' gz' : Nat) => ai (r7 [A,lo,lo,lo,lo,lo,n' + 2,n',n',t0,n',n',n',n',n',n',t0,n',n',n',n',n',n',t0,n',n',n',n',n',t0,t0,t0,t0,I]) (ai (rf (A + 247)) (ai hys (fun (ep' n'1 gz'1 : Nat) => ai (r7 []) (ai (rf (lxC w.params ((Expr.Name (Str.ofString "word") { line := 214, col := 26, endLine := 214, endCol := 30 }).ListComp [{ target := Expr.Tuple [Expr.Name (Str.ofString "number") { line := 214, col := 35, endLine := 214, endCol := 41 }, Expr.Name (Str.ofString "word") { line := 214, col := 43, endLine := 214, endCol := 47 }] 0 { line := 214, col := 35, endLine := 214, endCol := 47 }, iter := Expr.Name (Str.ofString "symbols") { line := 214, col := 51, endLine := 214, endCol := 58 }, ifs := [], is_async := 0 }] { kind := ScopeKind.function, names := [(Str.ofString ".0", NameKind.local), (Str.ofString "number", NameKind.local), (Str.ofString "word", NameKind.local)], isGenerator := false, isCoroutine := false } { line := 214, col := 25, endLine := 214, endCol := 59 }) ["number", "word"] ⟨lo, I, A, p, k + 1, qu, cd, fr, ys.push (Value.str (symOf y).2 us), ep', xs, epx, τ, Value.int (symOf y).fst ts, τ2, Value.str (symOf y).2 us, ee⟩)) (ai hsrc (ai (ha1 us) (ai hfw (ai (rf ([] : List (Nat × Code))) (fun (tk' ep'1 : Nat) (ys' : Array Value) (τ' σ' ee' : Nat) (v' u' : Value) (io' : Obj) (nq : List (Nat × Obj)) (x : AccWords ys' (done ++ [y] ++ rem) (nq ++ q)) (x1 : FewQ nq rem) (n'2 gz'2 : Nat) => hq tk' ep'1 ys' τ' σ' ee' v' u' io' nq x))))))))))))))
end
end Mine

namespace Mine
open PySem PySem.W PySem.W.X
noncomputable section
theorem loopC (w : World) (V : Vol) : ∀ (rem : List Int) (F : List String), F = [] ∨ F = ["number", "word"] → ∀ done, CtOk w V (ctL w.params 90 eNum ["number", "word"] F SrcSyms AccNums done rem) := ctL_ok w V rfl ⟨_, _, _, _, _, _, _, rfl⟩ (fun _ _ _ h => srcSyms_nil h) fun F hF done y rem hC => mkC_ok 90 rfl fun x q gs tk post h n gz => by
  obtain ⟨hsrc0, hacc, hfw0, rfl, hq⟩ := h
  obtain ⟨t0, ts, us, hat, hm, hsr⟩ := srcSyms_cons hsrc0
  have hsrc := hsr q fun p hp => hp
  have hys : x.ys.size ≤ 1000000 := few_ys hfw0 (by have := hacc.size; rwa [List.length_map] at this)
  have hfw := few_next hfw0
  have ha1 : ∀ t : Nat, AccNums (x.ys.push (.int (symOf y).1 t)) (done ++ [y]) q := fun t => by
    unfold AccNums
    rw [List.map_append]
    exact NumsOf.push hacc _ _
  replace hq : ∀ (tk' ep' : Nat) (ys' : Array Value) (τ' σ' ee' : Nat) (v' u' : Value) (io' : Obj) (nq : List (Nat × Obj)), AccNums ys' (done ++ [y] ++ rem) (nq ++ q) → post (.ok .next) tk' [dcO [eZ w.params "number" τ' v', eZ w.params "word" σ' u'] ee', io', lstO ys' ep', lstO x.xs x.epx] [] [] := fun tk' ep' ys' τ' σ' ee' v' u' io' nq h1 =>
    by have z := hq tk' ep' ys' τ' σ' ee' v' u' io' [] (by rw [← drop_app]; exact h1) (Nat.zero_le _); rw [frX_cons] at z; exact z
  obtain ⟨lo, I, A, p, k, qu, cd, fr, ys, ep, xs, epx, τ, v, τ2, v2, ee⟩ := x
  rcases hF with rfl | rfl
  · exact .go1 (subC hm sub0) (cC (ctLNext_ok w V (.ref (t0 + 247))) <| cC (ctApp_ok w V) <| c1 hC) [3,0,3,2,0,2,1,3,3,1,0,1,0,1,0,0,1,0,0,6,6,0,6,0,6,6,1,0,6,6,6,0,6,0,6,6,1,0,6,6,6,0,6,0,6,6,1,0,6,6,8,2,2,2,2,2,0,4,2,1,1,2,2,2,4,0,1,2,3] [] [] 0 (by kernel_rfl) (by kernel_rfl) (ai (r7 [I,I]) (ai (rf (lnC ((I, p, k, { cls := Value.type "list", data := Data.seq xs epx })))) (ai (rf true) (ai hat (fun (n' gz' : Nat) => ai (r7 [A,lo,lo,lo,lo,lo,n' + 2,n',n',t0,n',n',n',n',n',n',t0,n',n',n',n',n',n',t0,n',n',n',n',n',t0,t0,t0,t0,I]) (ai (rf (A + 247)) (ai hys (fun (ep' n'1 gz'1 : Nat) => ai (r7 []) (ai (rf (lxC w.params ((Expr.Name (Str.ofString "number") { line := 218, col := 63, endLine := 218, endCol := 69 }).ListComp [{ target := Expr.Tuple [Expr.Name (Str.ofString "number") { line := 218, col := 74, endLine := 218, endCol := 80 }, Expr.Name (Str.ofString "word") { line := 218, col := 82, endLine := 218, endCol := 86 }] 0 { line := 218, col := 74, endLine := 218, endCol := 86 }, iter := Expr.Name (Str.ofString "symbols") { line := 218, col := 90, endLine := 218, endCol := 97 }, ifs := [], is_async := 0 }] { kind := ScopeKind.function, names := [(Str.ofString ".0", NameKind.local), (Str.ofString "number", NameKind.local), (Str.ofString "word", NameKind.local)], isGenerator := false, isCoroutine := false } { line := 218, col := 62, endLine := 218, endCol := 98 }) ["number", "word"] ⟨lo, I, A, p, k + 1, qu, cd, fr, ys.push (Value.int (symOf y).fst ts), ep', xs, epx, tk, Value.int (symOf y).fst ts, tk + 1, Value.str (symOf y).2 us, ee + 2⟩)) (ai hsrc (ai (ha1 ts) (ai hfw (ai (rf ([] : List (Nat × Code))) (fun (tk' ep'1 : Nat) (ys' : Array Value) (τ' σ' ee' : Nat) (v' u' : Value) (io' : Obj) (nq : List (Nat × Obj)) (x : AccNums ys' (done ++ [y] ++ rem) (nq ++ q)) (x1 : FewQ nq rem) (n'2 gz'2 : Nat) => hq tk' ep'1 ys' τ' σ' ee' v' u' io' nq x))))))))))))))
  · exact .go1 (subC hm sub0) (cC (ctLNext_ok w V (.ref (t0 + 247))) <| cC (ctApp_ok w V) <| c1 hC) [3,0,3,2,0,2,1,3,3,1,0,1,0,1,0,0,1,0,0,6,6,0,6,0,6,6,1,0,6,6,6,0,6,0,6,6,1,0,6,6,6,0,6,0,6,6,1,0,6,6,8,2,2,2,2,2,0,4,2,1,1,2,2,2,4,0,1,2,3] [] [] 0 (by kernel_rfl) (by kernel_rfl) (ai (r7 [I,I]) (ai (rf (lnC ((I, p, k, { cls := Value.type "list", data := Data.seq xs epx })))) (ai (rf true) (ai hat (fun (n' gz' : Nat) => ai (r7 [A,lo,lo,lo,lo,lo,n' + 2,n',n',t0,n',n',n',n',n',n',t0,n',n',n',n',n',n',t0,n',n',n',n',n',t0,t0,t0,t0,I]) (ai (rf (A + 247)) (ai hys (fun (ep' n'1 gz'1 : Nat) => ai (r7 []) (ai (rf (lxC w.params ((Expr.Name (Str.ofString "number") { line := 218, col := 63, endLine := 218, endCol := 69 }).ListComp [{ target := Expr.Tuple [Expr.Name (Str.ofString "number") { line := 218, col := 74, endLine := 218, endCol := 80 }, Expr.Name (Str.ofString "word") { line := 218, col := 82, endLine := 218, endCol := 86 }] 0 { line := 218, col := 74, endLine := 218, endCol := 86 }, iter := Expr.Name (Str.ofString "symbols") { line := 218, col := 90, endLine := 218, endCol := 97 }, ifs := [], is_async := 0 }] { kind := ScopeKind.function, names := [(Str.ofString ".0", NameKind.local), (Str.ofString "number", NameKind.local), (Str.ofString "word", NameKind.local)], isGenerator := false, isCoroutine := false } { line := 218, col := 62, endLine := 218, endCol := 98 }) ["number", "word"] ⟨lo, I, A, p, k + 1, qu, cd, fr, ys.push (Value.int (symOf y).fst ts), ep', xs, epx, τ, Value.int (symOf y).fst ts, τ2, Value.str (symOf y).2 us, ee⟩)) (ai hsrc (ai (ha1 ts) (ai hfw (ai (rf ([] : List (Nat × Code))) (fun (tk' ep'1 : Nat) (ys' : Array Value) (τ' σ' ee' : Nat) (v' u' : Value) (io' : Obj) (nq : List (Nat × Obj)) (x : AccNums ys' (done ++ [y] ++ rem) (nq ++ q)) (x1 : FewQ nq rem) (n'2 gz'2 : Nat) => hq tk' ep'1 ys' τ' σ' ee' v' u' io' nq x))))))))))))))
theorem isN_eq {a b : Nat} : TextEq ⟨#[a]⟩ (S "n") (isN ⟨#[a, b]⟩) := by
  have e : (S "n").cps.toList = [110] := by decide +kernel
  unfold TextEq isN
  rw [e]
  show ([a] == [110]) = (some a == some 110)
  simp
theorem bools_turn {bs : List (Bool × Bool)} {ys : Array Value} {b c : Bool} {a : Nat} {q : List (Nat × Obj)} (h : BoolsOf ys.toList bs q) : BoolsOf (ys.push (.ref (a + 247))).toList (bs ++ [(b, c)]) ([(a + 247, lstO #[.bool b, .bool c] 0)] ++ q) := by
  rw [Array.toList_push]
  exact BoolsOf.snoc (x := (b, c)) (List.mem_cons_self ..) (BoolsOf.mono (fun p hp => List.mem_cons_of_mem _ hp) h)
theorem loopG (w : World) (V : Vol) : ∀ (rem : List Str) (F : List String), F = [] ∨ F = ["word"] → ∀ done, CtOk w V (ctL w.params 90 eNeN ["word"] F SrcTexts AccNeN done rem) := ctL_ok w V rfl ⟨_, _, _, _, _, _, _, rfl⟩ (fun _ _ _ h => srcTexts_nil h) fun F hF done y rem hC => mkC_ok 90 rfl fun x q gs tk post h n gz => by
  obtain ⟨hsrc0, hacc, hfw0, rfl, hq⟩ := h
  obtain ⟨⟨a0, b0, t1, rfl, hat⟩, hsrc⟩ := srcTexts_cons hsrc0
  have hys : x.ys.size ≤ 1000000 := few_ys hfw0 (by have := hacc.length; rwa [Array.length_toList, List.length_map] at this)
  have hfw := few_next hfw0
  have hte : TextEq ⟨#[a0]⟩ (S "n") (!(!isN ⟨#[a0, b0]⟩)) := by rw [Bool.not_not]; exact isN_eq
  have ha1 : ∀ a : Nat, AccNeN (x.ys.push (.ref (a + 247))) (done ++ [⟨#[a0, b0]⟩]) ([(a + 247, lstO #[.bool (!isN ⟨#[a0, b0]⟩), .bool (!isN ⟨#[a0, b0]⟩)] 0)] ++ q) := fun a => by
    unfold AccNeN
    rw [List.map_append]
    exact bools_turn hacc
  generalize hb : (!isN ⟨#[a0, b0]⟩) = b2 at hte ha1
  replace hq : ∀ (tk' ep' : Nat) (ys' : Array Value) (τ' ee' : Nat) (v' : Value) (io' : Obj) (nq : List (Nat × Obj)) (p : Nat × Obj), AccNeN ys' (done ++ [⟨#[a0, b0]⟩] ++ rem) (nq ++ ([p] ++ q)) → FewQ nq rem → post (.ok .next) tk' [dcO [eZ w.params "word" τ' v'] ee', io', lstO ys' ep', lstO x.xs x.epx] [] ([] ++ takeL (4 * (rem.length + 1)) (nq ++ ([p] ++ q))) := fun tk' ep' ys' τ' ee' v' io' nq p h1 h2 =>
    by have z := hq tk' ep' ys' τ' 0 ee' v' .none io' _ (by rw [← drop_app]; exact BoolsOf.mono (fun p hp => in_take h2 (by simp) hp) h1) (fewq_take rfl); rw [frX_cons] at z; exact z
  obtain ⟨lo, I, A, p, k, qu, cd, fr, ys, ep, xs, epx, τ, v, τ2, v2, ee⟩ := x
  rcases hF with rfl | rfl
  · exact .go1 sub0 (cC (ctLNext_ok w V (.str ⟨#[a0, b0]⟩ t1)) <| cC (ctNeS_ok w V b2) <| cC (ctN_ok (ctMul2_ok w V)) <| cC (ctApp_ok w V) <| c1 hC) [3,0,3,2,0,2,1,3,2,2,2,0,0,0,2,1,0,6,0,0,6,6,0,6,2,2,1,4,0,4,2,3,1,2,2,4,4,0,1,2,3] [] [] (4 * (rem.length + 1)) (by kernel_rfl) (by kernel_rfl) (ai (r7 [I,I]) (ai (rf (lnC ((I, p, k, { cls := Value.type "list", data := Data.seq xs epx })))) (ai (rf true) (ai hat (fun (n' gz' : Nat) => ai (r7 [lo,lo,lo]) (ai hte (fun (n'1 gz'1 : Nat) => ai (r7 [n'1,n'1,n'1,n'1]) (ai (rf (mlC ((n'1, Value.bool b2, 0, tk + 4)))) (fun (r n'2 gz'2 : Nat) => ai (r7 [A]) (ai (rf (A + 247)) (ai hys (fun (ep' n'3 gz'3 : Nat) => ai (r7 []) (ai (rf (lxC w.params (((Expr.List [((Expr.Name (Str.ofString "word") { line := 222, col := 22, endLine := 222, endCol := 26 }).Subscript (Expr.Constant (Const.int 0) 0 { line := 222, col := 27, endLine := 222, endCol := 28 }) { line := 222, col := 22, endLine := 222, endCol := 29 }).Compare [CmpOp.NotEq] [Expr.Constant (Const.str (Str.ofString "n")) 0 { line := 222, col := 33, endLine := 222, endCol := 36 }] { line := 222, col := 22, endLine := 222, endCol := 36 }] { line := 222, col := 21, endLine := 222, endCol := 37 }).BinOp Operator.Mult (Expr.Constant (Const.int 2) 0 { line := 222, col := 40, endLine := 222, endCol := 41 }) { line := 222, col := 21, endLine := 222, endCol := 41 }).ListComp [{ target := Expr.Name (Str.ofString "word") { line := 222, col := 46, endLine := 222, endCol := 50 }, iter := Expr.Name (Str.ofString "words") { line := 222, col := 54, endLine := 222, endCol := 59 }, ifs := [], is_async := 0 }] { kind := ScopeKind.function, names := [(Str.ofString ".0", NameKind.local), (Str.ofString "word", NameKind.local)], isGenerator := false, isCoroutine := false } { line := 222, col := 20, endLine := 222, endCol := 60 }) ["word"] ⟨lo, I, A, p, k + 1, qu, cd, fr, ys.push (Value.ref (r + 247)), ep', xs, epx, tk, Value.str { cps := #[a0, b0] } t1, 0, Value.none, ee + 1⟩)) (ai (hsrc ([(r + 247, { cls := Value.type "list", data := Data.seq #[Value.bool b2, Value.bool b2] })] ++ q)) (ai (ha1 r) (ai hfw (ai (rf ([] : List (Nat × Code))) (fun (tk' : Nat) (ep'1 : Nat) (ys' : Array Value) (τ' : Nat) (σ' : Nat) (ee' : Nat) (v' : Value) (u' : Value) (io' : Obj) (nq : List (Nat × Obj)) (x : AccNeN ys' (done ++ [{ cps := #[a0, b0] }] ++ rem) (nq ++ ([(r + 247, { cls := Value.type "list", data := Data.seq #[Value.bool b2, Value.bool b2] })] ++ q))) => fun (x1 : FewQ nq rem) (n'4 gz'4 : Nat) => hq tk' ep'1 ys' τ' ee' v' io' nq ((r + 247, { cls := Value.type "list", data := Data.seq #[Value.bool b2, Value.bool b2] })) x x1))))))))))))))))))
  · exact .go1 sub0 (cC (ctLNext_ok w V (.str ⟨#[a0, b0]⟩ t1)) <| cC (ctNeS_ok w V b2) <| cC (ctN_ok (ctMul2_ok w V)) <| cC (ctApp_ok w V) <| c1 hC) [3,0,3,2,0,2,1,3,2,2,2,0,0,0,2,1,0,6,0,0,6,6,0,6,2,2,1,4,0,4,2,3,1,2,2,4,4,0,1,2,3] [] [] (4 * (rem.length + 1)) (by kernel_rfl) (by kernel_rfl) (ai (r7 [I,I]) (ai (rf (lnC ((I, p, k, { cls := Value.type "list", data := Data.seq xs epx })))) (ai (rf true) (ai hat (fun (n' gz' : Nat) => ai (r7 [lo,lo,lo]) (ai hte (fun (n'1 gz'1 : Nat) => ai (r7 [n'1,n'1,n'1,n'1]) (ai (rf (mlC ((n'1, Value.bool b2, 0, tk + 4)))) (fun (r n'2 gz'2 : Nat) => ai (r7 [A]) (ai (rf (A + 247)) (ai hys (fun (ep' n'3 gz'3 : Nat) => ai (r7 []) (ai (rf (lxC w.params (((Expr.List [((Expr.Name (Str.ofString "word") { line := 222, col := 22, endLine := 222, endCol := 26 }).Subscript (Expr.Constant (Const.int 0) 0 { line := 222, col := 27, endLine := 222, endCol := 28 }) { line := 222, col := 22, endLine := 222, endCol := 29 }).Compare [CmpOp.NotEq] [Expr.Constant (Const.str (Str.ofString "n")) 0 { line := 222, col := 33, endLine := 222, endCol := 36 }] { line := 222, col := 22, endLine := 222, endCol := 36 }] { line := 222, col := 21, endLine := 222, endCol := 37 }).BinOp Operator.Mult (Expr.Constant (Const.int 2) 0 { line := 222, col := 40, endLine := 222, endCol := 41 }) { line := 222, col := 21, endLine := 222, endCol := 41 }).ListComp [{ target := Expr.Name (Str.ofString "word") { line := 222, col := 46, endLine := 222, endCol := 50 }, iter := Expr.Name (Str.ofString "words") { line := 222, col := 54, endLine := 222, endCol := 59 }, ifs := [], is_async := 0 }] { kind := ScopeKind.function, names := [(Str.ofString ".0", NameKind.local), (Str.ofString "word", NameKind.local)], isGenerator := false, isCoroutine := false } { line := 222, col := 20, endLine := 222, endCol := 60 }) ["word"] ⟨lo, I, A, p, k + 1, qu, cd, fr, ys.push (Value.ref (r + 247)), ep', xs, epx, τ, Value.str { cps := #[a0, b0] } t1, 0, Value.none, ee⟩)) (ai (hsrc ([(r + 247, { cls := Value.type "list", data := Data.seq #[Value.bool b2, Value.bool b2] })] ++ q)) (ai (ha1 r) (ai hfw (ai (rf ([] : List (Nat × Code))) (fun (tk' : Nat) (ep'1 : Nat) (ys' : Array Value) (τ' : Nat) (σ' : Nat) (ee' : Nat) (v' : Value) (u' : Value) (io' : Obj) (nq : List (Nat × Obj)) (x : AccNeN ys' (done ++ [{ cps := #[a0, b0] }] ++ rem) (nq ++ ([(r + 247, { cls := Value.type "list", data := Data.seq #[Value.bool b2, Value.bool b2] })] ++ q))) => fun (x1 : FewQ nq rem) (n'4 gz'4 : Nat) => hq tk' ep'1 ys' τ' ee' v' io' nq ((r + 247, { cls := Value.type "list", data := Data.seq #[Value.bool b2, Value.bool b2] })) x x1))))))))))))))))))
theorem loopH (w : World) (V : Vol) : ∀ (rem : List Str) (F : List String), F = [] ∨ F = ["word"] → ∀ done, CtOk w V (ctL w.params 90 eEqN ["word"] F SrcTexts AccEqN done rem) := ctL_ok w V rfl ⟨_, _, _, _, _, _, _, rfl⟩ (fun _ _ _ h => srcTexts_nil h) fun F hF done y rem hC => mkC_ok 90 rfl fun x q gs tk post h n gz => by
  obtain ⟨hsrc0, hacc, hfw0, rfl, hq⟩ := h
  obtain ⟨⟨a0, b0, t1, rfl, hat⟩, hsrc⟩ := srcTexts_cons hsrc0
  have hys : x.ys.size ≤ 1000000 := few_ys hfw0 (by have := hacc.length; rwa [Array.length_toList, List.length_map] at this)
  have hfw := few_next hfw0
  have hte : TextEq ⟨#[a0]⟩ (S "n") (isN ⟨#[a0, b0]⟩) := isN_eq
  have ha1 : ∀ a : Nat, AccEqN (x.ys.push (.ref (a + 247))) (done ++ [⟨#[a0, b0]⟩]) ([(a + 247, lstO #[.bool (isN ⟨#[a0, b0]⟩), .bool (isN ⟨#[a0, b0]⟩)] 0)] ++ q) := fun a => by
    unfold AccEqN
    rw [List.map_append]
    exact bools_turn hacc
  generalize hb : isN ⟨#[a0, b0]⟩ = b2 at hte ha1
  replace hq : ∀ (tk' ep' : Nat) (ys' : Array Value) (τ' ee' : Nat) (v' : Value) (io' : Obj) (nq : List (Nat × Obj)) (p : Nat × Obj), AccEqN ys' (done ++ [⟨#[a0, b0]⟩] ++ rem) (nq ++ ([p] ++ q)) → FewQ nq rem → post (.ok .next) tk' [dcO [eZ w.params "word" τ' v'] ee', io', lstO ys' ep', lstO x.xs x.epx] [] ([] ++ takeL (4 * (rem.length + 1)) (nq ++ ([p] ++ q))) := fun tk' ep' ys' τ' ee' v' io' nq p h1 h2 =>
    by have z := hq tk' ep' ys' τ' 0 ee' v' .none io' _ (by rw [← drop_app]; exact BoolsOf.mono (fun p hp => in_take h2 (by simp) hp) h1) (fewq_take rfl); rw [frX_cons] at z; exact z
  obtain ⟨lo, I, A, p, k, qu, cd, fr, ys, ep, xs, epx, τ, v, τ2, v2, ee⟩ := x
  rcases hF with rfl | rfl
  · exact .go1 sub0 (cC (ctLNext_ok w V (.str ⟨#[a0, b0]⟩ t1)) <| cC (ctEq_ok w V b2) <| cC (ctN_ok (ctMul2_ok w V)) <| cC (ctApp_ok w V) <| c1 hC) [3,0,3,2,0,2,1,3,2,2,2,0,0,0,2,1,0,6,0,0,6,6,0,6,2,2,1,4,0,4,2,3,1,2,2,4,4,0,1,2,3] [] [] (4 * (rem.length + 1)) (by kernel_rfl) (by kernel_rfl) (ai (r7 [I,I]) (ai (rf (lnC ((I, p, k, { cls := Value.type "list", data := Data.seq xs epx })))) (ai (rf true) (ai hat (fun (n' gz' : Nat) => ai (r7 [lo,lo,lo]) (ai hte (fun (n'1 gz'1 : Nat) => ai (r7 [n'1,n'1,n'1,n'1]) (ai (rf (mlC ((n'1, Value.bool b2, 0, tk + 4)))) (fun (r n'2 gz'2 : Nat) => ai (r7 [A]) (ai (rf (A + 247)) (ai hys (fun (ep' n'3 gz'3 : Nat) => ai (r7 []) (ai (rf (lxC w.params (((Expr.List [((Expr.Name (Str.ofString "word") { line := 222, col := 77, endLine := 222, endCol := 81 }).Subscript (Expr.Constant (Const.int 0) 0 { line := 222, col := 82, endLine := 222, endCol := 83 }) { line := 222, col := 77, endLine := 222, endCol := 84 }).Compare [CmpOp.Eq] [Expr.Constant (Const.str (Str.ofString "n")) 0 { line := 222, col := 88, endLine := 222, endCol := 91 }] { line := 222, col := 77, endLine := 222, endCol := 91 }] { line := 222, col := 76, endLine := 222, endCol := 92 }).BinOp Operator.Mult (Expr.Constant (Const.int 2) 0 { line := 222, col := 95, endLine := 222, endCol := 96 }) { line := 222, col := 76, endLine := 222, endCol := 96 }).ListComp [{ target := Expr.Name (Str.ofString "word") { line := 222, col := 101, endLine := 222, endCol := 105 }, iter := Expr.Name (Str.ofString "words") { line := 222, col := 109, endLine := 222, endCol := 114 }, ifs := [], is_async := 0 }] { kind := ScopeKind.function, names := [(Str.ofString ".0", NameKind.local), (Str.ofString "word", NameKind.local)], isGenerator := false, isCoroutine := false } { line := 222, col := 75, endLine := 222, endCol := 115 }) ["word"] ⟨lo, I, A, p, k + 1, qu, cd, fr, ys.push (Value.ref (r + 247)), ep', xs, epx, tk, Value.str { cps := #[a0, b0] } t1, 0, Value.none, ee + 1⟩)) (ai (hsrc ([(r + 247, { cls := Value.type "list", data := Data.seq #[Value.bool b2, Value.bool b2] })] ++ q)) (ai (ha1 r) (ai hfw (ai (rf ([] : List (Nat × Code))) (fun (tk' : Nat) (ep'1 : Nat) (ys' : Array Value) (τ' : Nat) (σ' : Nat) (ee' : Nat) (v' : Value) (u' : Value) (io' : Obj) (nq : List (Nat × Obj)) (x : AccEqN ys' (done ++ [{ cps := #[a0, b0] }] ++ rem) (nq ++ ([(r + 247, { cls := Value.type "list", data := Data.seq #[Value.bool b2, Value.bool b2] })] ++ q))) => fun (x1 : FewQ nq rem) (n'4 gz'4 : Nat) => hq tk' ep'1 ys' τ' ee' v' io' nq ((r + 247, { cls := Value.type "list", data := Data.seq #[Value.bool b2, Value.bool b2] })) x x1))))))))))))))))))
  · exact .go1 sub0 (cC (ctLNext_ok w V (.str ⟨#[a0, b0]⟩ t1)) <| cC (ctEq_ok w V b2) <| cC (ctN_ok (ctMul2_ok w V)) <| cC (ctApp_ok w V) <| c1 hC) [3,0,3,2,0,2,1,3,2,2,2,0,0,0,2,1,0,6,0,0,6,6,0,6,2,2,1,4,0,4,2,3,1,2,2,4,4,0,1,2,3] [] [] (4 * (rem.length + 1)) (by kernel_rfl) (by kernel_rfl) (ai (r7 [I,I]) (ai (rf (lnC ((I, p, k, { cls := Value.type "list", data := Data.seq xs epx })))) (ai (rf true) (ai hat (fun (n' gz' : Nat) => ai (r7 [lo,lo,lo]) (ai hte (fun (n'1 gz'1 : Nat) => ai (r7 [n'1,n'1,n'1,n'1]) (ai (rf (mlC ((n'1, Value.bool b2, 0, tk + 4)))) (fun (r n'2 gz'2 : Nat) => ai (r7 [A]) (ai (rf (A + 247)) (ai hys (fun (ep' n'3 gz'3 : Nat) => ai (r7 []) (ai (rf (lxC w.params (((Expr.List [((Expr.Name (Str.ofString "word") { line := 222, col := 77, endLine := 222, endCol := 81 }).Subscript (Expr.Constant (Const.int 0) 0 { line := 222, col := 82, endLine := 222, endCol := 83 }) { line := 222, col := 77, endLine := 222, endCol := 84 }).Compare [CmpOp.Eq] [Expr.Constant (Const.str (Str.ofString "n")) 0 { line := 222, col := 88, endLine := 222, endCol := 91 }] { line := 222, col := 77, endLine := 222, endCol := 91 }] { line := 222, col := 76, endLine := 222, endCol := 92 }).BinOp Operator.Mult (Expr.Constant (Const.int 2) 0 { line := 222, col := 95, endLine := 222, endCol := 96 }) { line := 222, col := 76, endLine := 222, endCol := 96 }).ListComp [{ target := Expr.Name (Str.ofString "word") { line := 222, col := 101, endLine := 222, endCol := 105 }, iter := Expr.Name (Str.ofString "words") { line := 222, col := 109, endLine := 222, endCol := 114 }, ifs := [], is_async := 0 }] { kind := ScopeKind.function, names := [(Str.ofString ".0", NameKind.local), (Str.ofString "word", NameKind.local)], isGenerator := false, isCoroutine := false } { line := 222, col := 75, endLine := 222, endCol := 115 }) ["word"] ⟨lo, I, A, p, k + 1, qu, cd, fr, ys.push (Value.ref (r + 247)), ep', xs, epx, τ, Value.str { cps := #[a0, b0] } t1, 0, Value.none, ee⟩)) (ai (hsrc ([(r + 247, { cls := Value.type "list", data := Data.seq #[Value.bool b2, Value.bool b2] })] ++ q)) (ai (ha1 r) (ai hfw (ai (rf ([] : List (Nat × Code))) (fun (tk' : Nat) (ep'1 : Nat) (ys' : Array Value) (τ' : Nat) (σ' : Nat) (ee' : Nat) (v' : Value) (u' : Value) (io' : Obj) (nq : List (Nat × Obj)) (x : AccEqN ys' (done ++ [{ cps := #[a0, b0] }] ++ rem) (nq ++ ([(r + 247, { cls := Value.type "list", data := Data.seq #[Value.bool b2, Value.bool b2] })] ++ q))) => fun (x1 : FewQ nq rem) (n'4 gz'4 : Nat) => hq tk' ep'1 ys' τ' ee' v' io' nq ((r + 247, { cls := Value.type "list", data := Data.seq #[Value.bool b2, Value.bool b2] })) x x1))))))))))))))))))
end
end Mine

namespace Mine
open PySem PySem.W PySem.W.X
noncomputable section
noncomputable def cA (elt target iter : Expr) (it : Value) (env : Env) : Sem PySem.Fin := do
  standAt iter.pos
  let r ← PySem.W.ZFast.zw9404975358583537561 it
  match r with
  | none => pure (.done .next)
  | some v => do
    letOwnedTupleGo target it v
    PySem.W.ZFast.zw17772580674575903948 target env v
    let x ← evalT elt env
    ret x
noncomputable def cB (acc x : Value) (c : Code) : Sem PySem.Fin := do
  let _ ← call (.builtin "list.append") [acc, x]
  again c
section
variable {w : World} {A : Around} {R : Result → Shared → Prop} {s : Shared}
theorem comp_two {elt target iter : Expr} {scope : Scope} {pos : Pos} {it acc : Value} {env : Env} {c : Code} (hce : c = .compLoop (.ListComp elt [⟨target, iter, [], 0⟩] scope pos) 0 it acc env)
    (hA : Mn w A (fun r s1 => ∃ x, r = .ok (.ret x) ∧ Mn w A (okR R) c .base (cB acc x c) s1) c .base (cA elt target iter it env) s) : codeAny (model PW w) A c (okR R) s := by
  subst hce
  refine codeAny_of_Mn ?_
  intro Γ p hc hΓ
  have z := hA Γ p hc hΓ
  show Sem.wp _ Γ ((compTurn (.ListComp elt [⟨target, iter, [], 0⟩] scope pos) 0 it acc env).onRaise _) _ _ p s
  rw [Sem.wp_onRaise, compTurn_list1]
  unfold cA at z
  rw [← PySem.W.ZFast.ze9404975358583537561, Sem.wp_bind', Sem.wp_cmd_standAt, Sem.wp_bind'] at z
  rw [Sem.wp_bind', Sem.wp_cmd_standAt, Sem.wp_bind']
  refine Sem.wp_mono _ _ _ (fun r p1 s1 y => ?_) (fun _ _ _ y => by obtain ⟨x, e, _⟩ := y; cases e) _ s z
  cases r with
  | none => obtain ⟨x, e, _⟩ := y; cases e
  | some v =>
    dsimp only at y ⊢
    rw [← PySem.W.ZFast.ze17772580674575903948, ← evalT_eq, Sem.wp_bind'] at y
    rw [Sem.wp_bind']
    refine Sem.wp_mono _ _ _ (fun _ p2 s2 y2 => ?_) (fun _ _ _ y => by obtain ⟨x, e, _⟩ := y; cases e) _ s1 y
    rw [Sem.wp_bind'] at y2 ⊢
    refine Sem.wp_mono _ _ _ (fun _ p3 s3 y3 => ?_) (fun _ _ _ y => by obtain ⟨x, e, _⟩ := y; cases e) _ s2 y2
    rw [Sem.wp_bind'] at y3
    rw [Sem.wp_bind', Sem.wp_bind']
    refine Sem.wp_mono _ _ _ (fun x p4 s4 y4 => ?_) (fun _ _ _ y => by obtain ⟨x, e, _⟩ := y; cases e) _ s3 y3
    obtain ⟨x', e, y4⟩ := y4
    cases e
    have z2 := y4 Γ p4 hc hΓ
    unfold cB at z2
    rw [Sem.wp_bind'] at z2
    rw [Sem.wp_bind']
    refine Sem.wp_mono _ _ _ (fun _ p5 s5 y5 => ?_) (fun _ _ _ y => by obtain ⟨f, e, _⟩ := y; cases e) _ s4 z2
    exact y5
end
noncomputable def cAof (e : Expr) (I : Nat) (env : Env) : Sem PySem.Fin := match e with
  | .ListComp elt (⟨target, iter, _, _⟩ :: _) _ _ => cA elt target iter (.ref I) env
  | _ => .unsupported ""
theorem lp_two {α : Type} {w : World} {V : Vol} {ex : Expr} {src : Srs α} {acc : Acs α} (hex : ∃ elt target iter scope pos, ex = .ListComp elt [⟨target, iter, [], 0⟩] scope pos) {F F1 : List String} {done rem : List α} {y : α} (i : Obj)
    (hA : ∀ x q tk post, LpOk w.params F1 F src acc done (y :: rem) x q [] post → ∀ n gz post1, (∀ (a tk' τ τ2 ee : Nat) (v v2 : Value), post1 (.ok (.ret (.ref (a + 247)))) tk' [frO2 w.params F1 (x.set τ τ2 ee v v2), liO (x.p + 247) (x.k + 1), lstO x.ys x.ep, lstO x.xs x.epx] [] [(a + 247, i)]) →
      RunsT w V 90 (lxC w.params ex F x).c (cAof ex (x.I + 247) (lcEnv ex (x.lo + 247) [] x.qu x.cd (some x.fr))) (lxC w.params ex F x).L q [] tk n gz post1)
    (hB : ∀ x q tk a n gz post2, LpOk w.params F1 F1 src acc done (y :: rem) x q [] post2 → 
      RunsT w V 90 (lxC w.params ex F1 { x with k := x.k + 1 }).c (cB (.ref (x.A + 247)) (.ref (a + 247)) (lxC w.params ex F1 { x with k := x.k + 1 }).c) (lxC w.params ex F1 { x with k := x.k + 1 }).L ((a + 247, i) :: q) [] tk n gz post2)
    (hi : i.isFreed = false) (hF : ∀ x, (frO2 w.params F1 x).isFreed = false) : CtOk w V (ctL w.params 90 ex F1 F src acc done (y :: rem)) := mkC_by fun x q gs tk post hp A Q h g d os hr H hQ => by
  obtain ⟨elt, target, iter, scope, pos, he⟩ := hex
  have hgs := hp.2.2.2.1
  subst hgs
  obtain ⟨hk, hc, hs, sl, sq, j, z⟩ := hA x q tk post hp (h.objs.size - 247) g.size (fun r tk' L' ns nq => ∃ (a τ τ2 ee : Nat) (v v2 : Value), r = .ok (.ret (.ref (a + 247))) ∧ L' = [frO2 w.params F1 (x.set τ τ2 ee v v2), liO (x.p + 247) (x.k + 1), lstO x.ys x.ep, lstO x.xs x.epx] ∧ ns = [] ∧ nq = [(a + 247, i)]) fun a tk' τ τ2 ee v v2 => ⟨a, τ, τ2, ee, v, v2, rfl, rfl, rfl, rfl⟩
  have hcA : cAof ex (x.I + 247) (lcEnv ex (x.lo + 247) [] x.qu x.cd (some x.fr)) = cA elt target iter (.ref (x.I + 247)) (lcEnv ex (x.lo + 247) [] x.qu x.cd (some x.fr)) := by unfold cAof; rw [he]
  rw [hcA] at z
  refine codeAny_mono (R := okR Q) (comp_two (elt := elt) (target := target) (iter := iter) (scope := scope) (pos := pos) (it := .ref (x.I + 247)) (acc := .ref (x.A + 247)) (env := lcEnv ex (x.lo + 247) [] x.qu x.cd (some x.fr)) (by rw [← he]; rfl) (run_mn (w := w) (V := V) (A := A) (d := d) (os := os) (Nat.le_refl 90) hc hk hr H (fun r tk' L' ns nq h' g' hx Af => ?_) z)) (fun r s' ⟨f, e, y⟩ => e ▸ y)
  obtain ⟨a, τ, τ2, ee, v, v2, rfl, rfl, rfl, rfl⟩ := hx
  have hf : ∀ o ∈ [frO2 w.params F1 (x.set τ τ2 ee v v2), liO (x.p + 247) (x.k + 1), lstO x.ys x.ep, lstO x.xs x.epx], o.isFreed = false := fun o ho => by
    simp only [List.mem_cons, List.not_mem_nil, or_false] at ho
    rcases ho with rfl | rfl | rfl | rfl
    · exact hF _
    · rfl
    · rfl
    · rfl
  have H1 := Af.have H hf
  rw [List.append_nil] at H1
  have hp2 : LpOk w.params F1 F1 src acc done (y :: rem) (x.set τ τ2 ee v v2) q [] (fun r2 tk2 L2 ns2 nq2 => (r2 = .ok .next ∧ ns2 = [] ∧ L2.length = 4) ∧ post r2 tk2 L2 [] nq2) := ⟨hp.1, hp.2.1, hp.2.2.1, rfl, fun tk' ep' ys' τ' σ' ee' v' u' io' nq h1 h2 => ⟨⟨rfl, rfl, rfl⟩, by
    have z := hp.2.2.2.2 tk' ep' ys' τ' σ' ee' v' u' io' nq h1 h2
    rw [frX_cons] at z ⊢
    exact z⟩⟩
  obtain ⟨hk2, hc2, hs2, sl2, sq2, j2, z2⟩ := hB (x.set τ τ2 ee v v2) q tk' a (h'.objs.size - 247) g'.size _ hp2
  refine ⟨_, rfl, run_mn (w := w) (V := V) (A := A) (d := d) (os := os) (Nat.le_refl 90) hc2 hk2 hr H1 (fun r2 tk2 L2 ns2 nq2 h2 g2 hx2 Af2 => ?_) z2⟩
  obtain ⟨⟨rfl, rfl, hl⟩, hx2⟩ := hx2
  have T := After.trans H Af hf Af2
  rw [show (lxC w.params ex F x).L.length = 4 from rfl, List.take_of_length_le (Nat.le_of_eq hl)] at T
  exact ⟨_, rfl, hQ _ _ _ _ _ _ _ hx2 T⟩
end
end Mine

namespace Mine
open PySem PySem.W PySem.W.X
noncomputable section
theorem kdA (w : World) (V : Vol) {x : Lx} {q : List (Nat × Obj)} {tk n gz t1 : Nat} {y : Int} {b : Bool} {F : List String} (hF : F = [] ∨ F = ["number"]) {post : Post} (hat : AtN x.xs x.k (.int y t1)) (h1 : IntLt y 256 b) (h2 : IntGe y 256 (!b))
    (hq : ∀ (a tk' τ τ2 ee : Nat) (v v2 : Value), post (.ok (.ret (.ref (a + 247)))) tk' [frO2 w.params ["number"] (x.set τ τ2 ee v v2), liO (x.p + 247) (x.k + 1), lstO x.ys x.ep, lstO x.xs x.epx] [] [(a + 247, lstO #[.bool b, .bool b] 0)]) :
    RunsT w V 90 (lxC w.params eKind F x).c (cAof eKind (x.I + 247) (lcEnv eKind (x.lo + 247) [] x.qu x.cd (some x.fr))) (lxC w.params eKind F x).L q [] tk n gz post := by
  obtain ⟨lo, I, A, p, k, qu, cd, fr, ys, ep, xs, epx, τ, v, τ2, v2, ee⟩ := x
  replace hq : ∀ (a tk' τ ee : Nat) (v : Value), post (.ok (.ret (.ref (a + 247)))) tk' [dcO [eZ w.params "number" τ v] ee, liO (p + 247) (k + 1), lstO ys ep, lstO xs epx] [] [(a + 247, lstO #[.bool (Value.bool b == Value.bool true), .bool ((Value.bool !b) == Value.bool false)] 0)] := fun a tk' τ ee v => by
    rw [show (Value.bool b == Value.bool true) = b by cases b <;> rfl, show ((Value.bool !b) == Value.bool false) = b by cases b <;> rfl]
    exact hq a tk' τ 0 ee v .none
  rcases hF with rfl | rfl
  · exact .go1 sub0 (cC (ctLNext_ok w V (.int y t1)) <| cC (ctLt_ok w V b) <| c1 (ctGe_ok w V (!b))) [3,0,3,2,0,2,1,3,2,2,0,2,0,1,0,6,6,0,0,6,0,0,2,1,0,0,2,0,1,0,7,7,0,0,7,0,0,2,2,0] [] [6] 0 (by kernel_rfl) (by kernel_rfl) (ai (r7 [I,I]) (ai (rf (lnC ((I, p, k, { cls := Value.type "list", data := Data.seq xs epx })))) (ai (rf true) (ai hat (fun (n' gz' : Nat) => ai (r7 [n',n',n',lo,lo,lo]) (ai h1 (fun (n'1 gz'1 : Nat) => ai (r7 [n'1,n'1,n'1,lo]) (ai h2 (fun (n'2 gz'2 : Nat) => ai (r7 []) (hq n'2 (tk + 3) tk (ee + 1) (Value.int y t1)))))))))))
  · exact .go1 sub0 (cC (ctLNext_ok w V (.int y t1)) <| cC (ctLt_ok w V b) <| c1 (ctGe_ok w V (!b))) [3,0,3,2,0,2,1,3,2,2,0,2,0,1,0,6,6,0,0,6,0,0,2,1,0,0,2,0,1,0,7,7,0,0,7,0,0,2,2,0] [] [6] 0 (by kernel_rfl) (by kernel_rfl) (ai (r7 [I,I]) (ai (rf (lnC ((I, p, k, { cls := Value.type "list", data := Data.seq xs epx })))) (ai (rf true) (ai hat (fun (n' gz' : Nat) => ai (r7 [n',n',n',lo,lo,lo]) (ai h1 (fun (n'1 gz'1 : Nat) => ai (r7 [n'1,n'1,n'1,lo]) (ai h2 (fun (n'2 gz'2 : Nat) => ai (r7 []) (hq n'2 (tk + 3) τ ee (Value.int y t1)))))))))))
theorem otA (w : World) (V : Vol) {x : Lx} {q : List (Nat × Obj)} {tk n gz t1 : Nat} {y : Int} {b : Bool} {F : List String} (hF : F = [] ∨ F = ["number"]) {post : Post} (hat : AtN x.xs x.k (.int y t1)) (h1 : IntLt y 256 b) (h2 : IntGe y 256 (!b))
    (hq : ∀ (a tk' τ τ2 ee : Nat) (v v2 : Value), post (.ok (.ret (.ref (a + 247)))) tk' [frO2 w.params ["number"] (x.set τ τ2 ee v v2), liO (x.p + 247) (x.k + 1), lstO x.ys x.ep, lstO x.xs x.epx] [] [(a + 247, lstO #[.bool (!b), .bool (!b)] 0)]) :
    RunsT w V 90 (lxC w.params eOth F x).c (cAof eOth (x.I + 247) (lcEnv eOth (x.lo + 247) [] x.qu x.cd (some x.fr))) (lxC w.params eOth F x).L q [] tk n gz post := by
  obtain ⟨lo, I, A, p, k, qu, cd, fr, ys, ep, xs, epx, τ, v, τ2, v2, ee⟩ := x
  replace hq : ∀ (a tk' τ ee : Nat) (v : Value), post (.ok (.ret (.ref (a + 247)))) tk' [dcO [eZ w.params "number" τ v] ee, liO (p + 247) (k + 1), lstO ys ep, lstO xs epx] [] [(a + 247, lstO #[.bool (Value.bool b == Value.bool false), .bool ((Value.bool !b) == Value.bool true)] 0)] := fun a tk' τ ee v => by
    rw [show (Value.bool b == Value.bool false) = (!b) by cases b <;> rfl, show ((Value.bool !b) == Value.bool true) = (!b) by cases b <;> rfl]
    exact hq a tk' τ 0 ee v .none
  rcases hF with rfl | rfl
  · exact .go1 sub0 (cC (ctLNext_ok w V (.int y t1)) <| cC (ctLt_ok w V b) <| c1 (ctGe_ok w V (!b))) [3,0,3,2,0,2,1,3,2,2,0,2,0,1,0,6,6,0,0,6,0,0,2,1,0,0,2,0,1,0,7,7,0,0,7,0,0,2,2,0] [] [6] 0 (by kernel_rfl) (by kernel_rfl) (ai (r7 [I,I]) (ai (rf (lnC ((I, p, k, { cls := Value.type "list", data := Data.seq xs epx })))) (ai (rf true) (ai hat (fun (n' gz' : Nat) => ai (r7 [n',n',n',lo,lo,lo]) (ai h1 (fun (n'1 gz'1 : Nat) => ai (r7 [n'1,n'1,n'1,lo]) (ai h2 (fun (n'2 gz'2 : Nat) => ai (r7 []) (hq n'2 (tk + 3) tk (ee + 1) (Value.int y t1)))))))))))
  · exact .go1 sub0 (cC (ctLNext_ok w V (.int y t1)) <| cC (ctLt_ok w V b) <| c1 (ctGe_ok w V (!b))) [3,0,3,2,0,2,1,3,2,2,0,2,0,1,0,6,6,0,0,6,0,0,2,1,0,0,2,0,1,0,7,7,0,0,7,0,0,2,2,0] [] [6] 0 (by kernel_rfl) (by kernel_rfl) (ai (r7 [I,I]) (ai (rf (lnC ((I, p, k, { cls := Value.type "list", data := Data.seq xs epx })))) (ai (rf true) (ai hat (fun (n' gz' : Nat) => ai (r7 [n',n',n',lo,lo,lo]) (ai h1 (fun (n'1 gz'1 : Nat) => ai (r7 [n'1,n'1,n'1,lo]) (ai h2 (fun (n'2 gz'2 : Nat) => ai (r7 []) (hq n'2 (tk + 3) τ ee (Value.int y t1)))))))))))
theorem kdB (w : World) (V : Vol) {rem done : List Int} {y : Int} {b : Bool} (hC : CtOk w V (ctL w.params 90 eKind ["number"] ["number"] SrcInts AccKinds (done ++ [y]) rem)) (hb : isT y = b) (x : Lx) (q : List (Nat × Obj)) (tk a n gz : Nat) (post : Post) (h : LpOk w.params ["number"] ["number"] SrcInts AccKinds done (y :: rem) x q [] post) :
    RunsT w V 90 (lxC w.params eKind ["number"] { x with k := x.k + 1 }).c (cB (.ref (x.A + 247)) (.ref (a + 247)) (lxC w.params eKind ["number"] { x with k := x.k + 1 }).c) (lxC w.params eKind ["number"] { x with k := x.k + 1 }).L ((a + 247, lstO #[.bool b, .bool b] 0) :: q) [] tk n gz post := by
  obtain ⟨hsrc0, hacc, hfw0, _, hq⟩ := h
  obtain ⟨⟨t1, hat⟩, hsrc⟩ := srcInts_cons hsrc0
  have hys : x.ys.size ≤ 1000000 := few_ys hfw0 (by have := hacc.length; rwa [Array.length_toList, List.length_map] at this)
  have hfw := few_next hfw0
  have ha1 : AccKinds (x.ys.push (.ref (a + 247))) (done ++ [y]) ([(a + 247, lstO #[.bool b, .bool b] 0)] ++ q) := by
    subst hb
    unfold AccKinds
    rw [List.map_append]
    exact bools_turn hacc
  replace hq : ∀ (tk' ep' : Nat) (ys' : Array Value) (τ' ee' : Nat) (v' : Value) (io' : Obj) (nq : List (Nat × Obj)), AccKinds ys' (done ++ [y] ++ rem) (nq ++ ([(a + 247, lstO #[.bool b, .bool b] 0)] ++ q)) → FewQ nq rem → post (.ok .next) tk' [dcO [eZ w.params "number" τ' v'] ee', io', lstO ys' ep', lstO x.xs x.epx] [] ([] ++ takeL (4 * (rem.length + 1)) (nq ++ ([(a + 247, lstO #[.bool b, .bool b] 0)] ++ q))) := fun tk' ep' ys' τ' ee' v' io' nq h1 h2 =>
    by have z := hq tk' ep' ys' τ' 0 ee' v' .none io' _ (by rw [← drop_app]; exact BoolsOf.mono (fun p hp => in_take h2 (by simp) hp) h1) (fewq_take rfl); rw [frX_cons] at z; exact z
  obtain ⟨lo, I, A, p, k, qu, cd, fr, ys, ep, xs, epx, τ, v, τ2, v2, ee⟩ := x
  exact .go1 sub0 (cC (ctApp_ok w V) <| c1 hC) [0,4,2,0,1,2,2,1,4,0,1,2,3] [] [] (4 * (rem.length + 1)) (by kernel_rfl) (by kernel_rfl) (ai (r7 [A]) (ai (rf (A + 247)) (ai hys (fun (ep' n' gz' : Nat) => ai (r7 []) (ai (rf (lxC w.params eKind ["number"] ⟨lo, I, A, p, k + 1, qu, cd, fr, ys.push (Value.ref (a + 247)), ep', xs, epx, τ, v, 0, Value.none, ee⟩)) (ai (hsrc ((a + 247, { cls := Value.type "list", data := Data.seq #[Value.bool b, Value.bool b] }) :: q)) (ai ha1 (ai hfw (ai (rf ([] : List (Nat × Code))) (fun (tk' : Nat) (ep'1 : Nat) (ys' : Array Value) (τ' : Nat) (σ' : Nat) (ee' : Nat) (v' : Value) (u' : Value) (io' : Obj) (nq : List (Nat × Obj)) (x : AccKinds ys' (done ++ [y] ++ rem) (nq ++ (a + 247, { cls := Value.type "list", data := Data.seq #[Value.bool b, Value.bool b] }) :: q)) => fun (x1 : FewQ nq rem) (n'1 gz'1 : Nat) => hq tk' ep'1 ys' τ' ee' v' io' nq x x1))))))))))
theorem otB (w : World) (V : Vol) {rem done : List Int} {y : Int} {b : Bool} (hC : CtOk w V (ctL w.params 90 eOth ["number"] ["number"] SrcInts AccOth (done ++ [y]) rem)) (hb : (!isT y) = b) (x : Lx) (q : List (Nat × Obj)) (tk a n gz : Nat) (post : Post) (h : LpOk w.params ["number"] ["number"] SrcInts AccOth done (y :: rem) x q [] post) :
    RunsT w V 90 (lxC w.params eOth ["number"] { x with k := x.k + 1 }).c (cB (.ref (x.A + 247)) (.ref (a + 247)) (lxC w.params eOth ["number"] { x with k := x.k + 1 }).c) (lxC w.params eOth ["number"] { x with k := x.k + 1 }).L ((a + 247, lstO #[.bool b, .bool b] 0) :: q) [] tk n gz post := by
  obtain ⟨hsrc0, hacc, hfw0, _, hq⟩ := h
  obtain ⟨⟨t1, hat⟩, hsrc⟩ := srcInts_cons hsrc0
  have hys : x.ys.size ≤ 1000000 := few_ys hfw0 (by have := hacc.length; rwa [Array.length_toList, List.length_map] at this)
  have hfw := few_next hfw0
  have ha1 : AccOth (x.ys.push (.ref (a + 247))) (done ++ [y]) ([(a + 247, lstO #[.bool b, .bool b] 0)] ++ q) := by
    subst hb
    unfold AccOth
    rw [List.map_append]
    exact bools_turn hacc
  replace hq : ∀ (tk' ep' : Nat) (ys' : Array Value) (τ' ee' : Nat) (v' : Value) (io' : Obj) (nq : List (Nat × Obj)), AccOth ys' (done ++ [y] ++ rem) (nq ++ ([(a + 247, lstO #[.bool b, .bool b] 0)] ++ q)) → FewQ nq rem → post (.ok .next) tk' [dcO [eZ w.params "number" τ' v'] ee', io', lstO ys' ep', lstO x.xs x.epx] [] ([] ++ takeL (4 * (rem.length + 1)) (nq ++ ([(a + 247, lstO #[.bool b, .bool b] 0)] ++ q))) := fun tk' ep' ys' τ' ee' v' io' nq h1 h2 =>
    by have z := hq tk' ep' ys' τ' 0 ee' v' .none io' _ (by rw [← drop_app]; exact BoolsOf.mono (fun p hp => in_take h2 (by simp) hp) h1) (fewq_take rfl); rw [frX_cons] at z; exact z
  obtain ⟨lo, I, A, p, k, qu, cd, fr, ys, ep, xs, epx, τ, v, τ2, v2, ee⟩ := x
  exact .go1 sub0 (cC (ctApp_ok w V) <| c1 hC) [0,4,2,0,1,2,2,1,4,0,1,2,3] [] [] (4 * (rem.length + 1)) (by kernel_rfl) (by kernel_rfl) (ai (r7 [A]) (ai (rf (A + 247)) (ai hys (fun (ep' n' gz' : Nat) => ai (r7 []) (ai (rf (lxC w.params eOth ["number"] ⟨lo, I, A, p, k + 1, qu, cd, fr, ys.push (Value.ref (a + 247)), ep', xs, epx, τ, v, 0, Value.none, ee⟩)) (ai (hsrc ((a + 247, { cls := Value.type "list", data := Data.seq #[Value.bool b, Value.bool b] }) :: q)) (ai ha1 (ai hfw (ai (rf ([] : List (Nat × Code))) (fun (tk' : Nat) (ep'1 : Nat) (ys' : Array Value) (τ' : Nat) (σ' : Nat) (ee' : Nat) (v' : Value) (u' : Value) (io' : Obj) (nq : List (Nat × Obj)) (x : AccOth ys' (done ++ [y] ++ rem) (nq ++ (a + 247, { cls := Value.type "list", data := Data.seq #[Value.bool b, Value.bool b] }) :: q)) => fun (x1 : FewQ nq rem) (n'1 gz'1 : Nat) => hq tk' ep'1 ys' τ' ee' v' io' nq x x1))))))))))
theorem loopD (w : World) (V : Vol) : ∀ (rem : List Int) (F : List String), F = [] ∨ F = ["number"] → ∀ done, CtOk w V (ctL w.params 90 eKind ["number"] F SrcInts AccKinds done rem) := ctL_ok w V rfl ⟨_, _, _, _, _, _, _, rfl⟩ (fun _ _ _ h => srcInts_nil h) fun F hF done y rem hC =>
  lp_two ⟨_, _, _, _, _, rfl⟩ (F1 := ["number"]) (lstO #[.bool (isT y), .bool (isT y)] 0) (fun x q tk post h n gz post1 h1 => by
    obtain ⟨⟨t1, hat⟩, _⟩ := srcInts_cons h.1
    exact kdA w V hF hat (b := isT y) rfl (by unfold IntGe isT; by_cases h : y < 256 <;> simp [h] <;> omega) h1) (fun x q tk a n gz post2 h => kdB w V hC rfl x q tk a n gz post2 h) rfl fun _ => rfl
theorem loopF (w : World) (V : Vol) : ∀ (rem : List Int) (F : List String), F = [] ∨ F = ["number"] → ∀ done, CtOk w V (ctL w.params 90 eOth ["number"] F SrcInts AccOth done rem) := ctL_ok w V rfl ⟨_, _, _, _, _, _, _, rfl⟩ (fun _ _ _ h => srcInts_nil h) fun F hF done y rem hC =>
  lp_two ⟨_, _, _, _, _, rfl⟩ (F1 := ["number"]) (lstO #[.bool (!isT y), .bool (!isT y)] 0) (fun x q tk post h n gz post1 h1 => by
    obtain ⟨⟨t1, hat⟩, _⟩ := srcInts_cons h.1
    exact otA w V hF hat (b := isT y) rfl (by unfold IntGe isT; by_cases h : y < 256 <;> simp [h] <;> omega) h1) (fun x q tk a n gz post2 h => otB w V hC rfl x q tk a n gz post2 h) rfl fun _ => rfl
end
end Mine

namespace Mine
open PySem PySem.W PySem.W.X
noncomputable section
noncomputable def RowsOf : List Value → List (List Str) → List (Nat × Obj) → Prop
  | [], [], _ => True
  | .ref a :: vs, r :: rs, q => (∃ z ep, (a, lstO z ep) ∈ q ∧ Words z r) ∧ 247 ≤ a ∧ RowsOf vs rs q
  | _, _, _ => False
theorem RowsOf.mono {q q' : List (Nat × Obj)} (hq : ∀ p ∈ q, p ∈ q') : ∀ {vs : List Value} {rs : List (List Str)}, RowsOf vs rs q → RowsOf vs rs q'
  | [], [], _ => trivial
  | .ref a :: vs, r :: rs, ⟨⟨z, ep, h1, h2⟩, h3, h4⟩ => ⟨⟨z, ep, hq _ h1, h2⟩, h3, RowsOf.mono hq h4⟩
theorem RowsOf.snoc {q : List (Nat × Obj)} {a : Nat} {r : List Str} {z : Array Value} {ep : Nat} (hm : (a + 247, lstO z ep) ∈ q) (hw : Words z r) : ∀ {vs : List Value} {rs : List (List Str)}, RowsOf vs rs q → RowsOf (vs ++ [.ref (a + 247)]) (rs ++ [r]) q
  | [], [], _ => ⟨⟨z, ep, hm, hw⟩, Nat.le_add_left _ _, trivial⟩
  | .ref a :: vs, r :: rs, ⟨h1, h3, h4⟩ => ⟨h1, h3, RowsOf.snoc hm hw h4⟩
theorem RowsOf.length {q : List (Nat × Obj)} : ∀ {vs : List Value} {rs : List (List Str)}, RowsOf vs rs q → vs.length = rs.length
  | [], [], _ => rfl
  | .ref a :: vs, r :: rs, ⟨h1, h3, h4⟩ => by rw [List.length_cons, List.length_cons, RowsOf.length h4]
theorem rows_cons {vs : List Value} {r : List Str} {rs : List (List Str)} {q : List (Nat × Obj)} (h : RowsOf vs (r :: rs) q) : ∃ a vs' z ep, vs = .ref (a + 247) :: vs' ∧ (a + 247, lstO z ep) ∈ q ∧ Words z r ∧ RowsOf vs' rs q := by
  cases vs with
  | nil => exact h.elim
  | cons v vs =>
    cases v with
    | ref a =>
      obtain ⟨⟨z, ep, h1, h2⟩, h3, h4⟩ := h
      obtain ⟨a, rfl⟩ := Nat.exists_eq_add_of_le' h3
      exact ⟨a, vs, z, ep, rfl, h1, h2, h4⟩
    | _ => exact h.elim
theorem rows_nil {vs : List Value} {q : List (Nat × Obj)} (h : RowsOf vs [] q) : vs = [] := by
  cases vs with
  | nil => rfl
  | cons v vs => cases v <;> exact h.elim
theorem fits_of {sep : Str} {l : List Str} (hs : sep.length ≤ 1) (hl : l.length ≤ 100) (h : ∀ x ∈ l, x.length ≤ 100) : JoinTo sep l (Txt.join sep l) := by
  have hsum : (l.map (·.length)).sum ≤ l.length * 100 := by
    have := sum_le_of (l := l.map (·.length)) (B := 100) (fun x hx => by obtain ⟨y, hy, rfl⟩ := List.mem_map.mp hx; exact h y hy)
    rwa [List.length_map] at this
  have hm : l.length * sep.length ≤ 100 := by
    have := Nat.mul_le_mul hl hs
    omega
  have h3 : l.length * 100 ≤ 10000 := by omega
  refine ⟨?_, ?_, rfl⟩
  · unfold JoinOk
    rw [StrLaws.joinTotal]
    unfold Builtin.Str.tooLong
    have h24 : sizeLine = 16777216 := rfl
    simp only [Bool.not_eq_true', decide_eq_false_iff_not]
    omega
  · rw [show Txt.join sep l = Str.join sep l from StrLaws.glued_eq_join _ _]
    have := StrLaws.join_length_le sep l
    omega
noncomputable def AccW (ys : Array Value) (l : List Str) (q : List (Nat × Obj)) : Prop := TextsOf ys (l.map fun x => S " " ++ x)
theorem loopW (w : World) (V : Vol) : ∀ (rem : List Str) (F : List String), F = [] ∨ F = ["word"] → ∀ done, CtOk w V (ctL w.params 30 eWord ["word"] F SrcTexts AccW done rem) := ctL_ok w V rfl ⟨_, _, _, _, _, _, _, rfl⟩ (fun _ _ _ h => srcTexts_nil h) fun F hF done y rem hC => mkC_ok 30 rfl fun x q gs tk post h n gz => by
  obtain ⟨hsrc0, hacc, hfw0, rfl, hq⟩ := h
  obtain ⟨⟨a0, b0, t1, rfl, hat⟩, hsrc⟩ := srcTexts_cons hsrc0
  have hys : x.ys.size ≤ 1000000 := few_ys hfw0 (by have := TextsOf.size hacc; rwa [List.length_map] at this)
  have hfw := few_next hfw0
  obtain ⟨z, hz⟩ : ∃ z, S " " ++ (⟨#[a0, b0]⟩ : Str) = z := ⟨_, rfl⟩
  have hz1 : AddTo (S " ") ⟨#[a0, b0]⟩ z := ⟨by decide, (show (2 : Nat) ≠ 0 by decide), (by rw [show (⟨#[a0, b0]⟩ : Str).length = 2 from rfl]; decide), hz⟩
  have ha1 : ∀ t : Nat, AccW (x.ys.push (.str z t)) (done ++ [⟨#[a0, b0]⟩]) q := fun t => by
    unfold AccW
    rw [List.map_append, ← hz]
    exact TextsOf.push hacc _ _
  replace hq : ∀ (tk' ep' : Nat) (ys' : Array Value) (τ' ee' : Nat) (v' : Value) (io' : Obj) (nq : List (Nat × Obj)), AccW ys' (done ++ [⟨#[a0, b0]⟩] ++ rem) (nq ++ q) → post (.ok .next) tk' [dcO [eZ w.params "word" τ' v'] ee', io', lstO ys' ep', lstO x.xs x.epx] [] [] := fun tk' ep' ys' τ' ee' v' io' nq h1 =>
    by have z := hq tk' ep' ys' τ' 0 ee' v' .none io' [] (by rw [← drop_app]; exact h1) (Nat.zero_le _); rw [frX_cons] at z; exact z
  obtain ⟨lo, I, A, p, k, qu, cd, fr, ys, ep, xs, epx, τ, v, τ2, v2, ee⟩ := x
  rcases hF with rfl | rfl
  · exact .go1 sub0 (cC (ctLNext_ok w V (.str ⟨#[a0, b0]⟩ t1)) <| cC (ctAdd_ok w V z) <| cC (ctApp_ok w V) <| c1 hC) [3,0,3,2,0,2,1,3,2,2,2,0,2,1,0,0,4,2,2,1,2,2,3,4,0,1,2,3] [] [] 0 (by kernel_rfl) (by kernel_rfl) (ai (r7 [I,I]) (ai (rf (lnC ((I, p, k, { cls := Value.type "list", data := Data.seq xs epx })))) (ai (rf true) (ai hat (fun (n' gz' : Nat) => ai (r7 [lo,lo,lo]) (ai (rf (adC ((S " ", tk + 1, { cps := #[a0, b0] }, t1)))) (ai hz1 (fun (n'1 gz'1 : Nat) => ai (r7 [A]) (ai (rf (A + 247)) (ai hys (fun (ep' n'2 gz'2 : Nat) => ai (r7 []) (ai (rf (lxC w.params (((Expr.Constant (Const.str (Str.ofString " ")) 0 { line := 211, col := 43, endLine := 211, endCol := 46 }).BinOp Operator.Add (Expr.Name (Str.ofString "word") { line := 211, col := 49, endLine := 211, endCol := 53 }) { line := 211, col := 43, endLine := 211, endCol := 53 }).ListComp [{ target := Expr.Name (Str.ofString "word") { line := 211, col := 58, endLine := 211, endCol := 62 }, iter := Expr.Name (Str.ofString "row") { line := 211, col := 66, endLine := 211, endCol := 69 }, ifs := [], is_async := 0 }] { kind := ScopeKind.function, names := [(Str.ofString ".0", NameKind.local), (Str.ofString "word", NameKind.local)], isGenerator := false, isCoroutine := false } { line := 211, col := 42, endLine := 211, endCol := 70 }) ["word"] ⟨lo, I, A, p, k + 1, qu, cd, fr, ys.push (Value.str z (tk + 2)), ep', xs, epx, tk, Value.str { cps := #[a0, b0] } t1, 0, Value.none, ee + 1⟩)) (ai (hsrc q) (ai (ha1 (tk + 2)) (ai hfw (ai (rf ([] : List (Nat × Code))) (fun (tk' ep'1 : Nat) (ys' : Array Value) (τ' σ' ee' : Nat) (v' u' : Value) (io' : Obj) (nq : List (Nat × Obj)) (x : AccW ys' (done ++ [{ cps := #[a0, b0] }] ++ rem) (nq ++ q)) (x1 : FewQ nq rem) (n'3 gz'3 : Nat) => hq tk' ep'1 ys' τ' ee' v' io' nq x)))))))))))))))))
  · exact .go1 sub0 (cC (ctLNext_ok w V (.str ⟨#[a0, b0]⟩ t1)) <| cC (ctAdd_ok w V z) <| cC (ctApp_ok w V) <| c1 hC) [3,0,3,2,0,2,1,3,2,2,2,0,2,1,0,0,4,2,2,1,2,2,3,4,0,1,2,3] [] [] 0 (by kernel_rfl) (by kernel_rfl) (ai (r7 [I,I]) (ai (rf (lnC ((I, p, k, { cls := Value.type "list", data := Data.seq xs epx })))) (ai (rf true) (ai hat (fun (n' gz' : Nat) => ai (r7 [lo,lo,lo]) (ai (rf (adC ((S " ", tk + 1, { cps := #[a0, b0] }, t1)))) (ai hz1 (fun (n'1 gz'1 : Nat) => ai (r7 [A]) (ai (rf (A + 247)) (ai hys (fun (ep' n'2 gz'2 : Nat) => ai (r7 []) (ai (rf (lxC w.params (((Expr.Constant (Const.str (Str.ofString " ")) 0 { line := 211, col := 43, endLine := 211, endCol := 46 }).BinOp Operator.Add (Expr.Name (Str.ofString "word") { line := 211, col := 49, endLine := 211, endCol := 53 }) { line := 211, col := 43, endLine := 211, endCol := 53 }).ListComp [{ target := Expr.Name (Str.ofString "word") { line := 211, col := 58, endLine := 211, endCol := 62 }, iter := Expr.Name (Str.ofString "row") { line := 211, col := 66, endLine := 211, endCol := 69 }, ifs := [], is_async := 0 }] { kind := ScopeKind.function, names := [(Str.ofString ".0", NameKind.local), (Str.ofString "word", NameKind.local)], isGenerator := false, isCoroutine := false } { line := 211, col := 42, endLine := 211, endCol := 70 }) ["word"] ⟨lo, I, A, p, k + 1, qu, cd, fr, ys.push (Value.str z (tk + 2)), ep', xs, epx, τ, Value.str { cps := #[a0, b0] } t1, 0, Value.none, ee⟩)) (ai (hsrc q) (ai (ha1 (tk + 2)) (ai hfw (ai (rf ([] : List (Nat × Code))) (fun (tk' ep'1 : Nat) (ys' : Array Value) (τ' σ' ee' : Nat) (v' u' : Value) (io' : Obj) (nq : List (Nat × Obj)) (x : AccW ys' (done ++ [{ cps := #[a0, b0] }] ++ rem) (nq ++ q)) (x1 : FewQ nq rem) (n'3 gz'3 : Nat) => hq tk' ep'1 ys' τ' ee' v' io' nq x)))))))))))))))))
noncomputable def SrcRows (xs : Array Value) (k : Nat) (rs : List (List Str)) (q : List (Nat × Obj)) : Prop := RowsOf (xs.toList.drop k) rs q ∧ ∀ r ∈ rs, r ≠ [] ∧ r.length ≤ 100
noncomputable def AccR (ys : Array Value) (rs : List (List Str)) (q : List (Nat × Obj)) : Prop := TextsOf ys (rs.map rendB)
theorem srcRows_cons {xs : Array Value} {k : Nat} {r : List Str} {rs : List (List Str)} {q : List (Nat × Obj)} (h : SrcRows xs k (r :: rs) q) : ∃ a z ep, AtN xs k (.ref (a + 247)) ∧ (a + 247, lstO z ep) ∈ q ∧ Words z r ∧ (r ≠ [] ∧ r.length ≤ 100) ∧ ∀ nq, SrcRows xs (k + 1) rs (nq ++ q) := by
  obtain ⟨h1, h2⟩ := h
  generalize hvs : xs.toList.drop k = vs at h1
  obtain ⟨a, vs', z, ep, rfl, hm, hw, hr⟩ := rows_cons h1
  obtain ⟨hat, hr2⟩ := rest_cons (show RestOf xs k _ from hvs)
  exact ⟨a, z, ep, hat, hm, hw, h2 _ (List.mem_cons_self ..), fun nq => ⟨by rw [show xs.toList.drop (k + 1) = vs' from hr2]; exact hr.mono fun p hp => List.mem_append_right _ hp, fun r hr => h2 r (List.mem_cons_of_mem _ hr)⟩⟩
theorem srcRows_nil {xs : Array Value} {k : Nat} {q : List (Nat × Obj)} (h : SrcRows xs k [] q) : xs.size ≤ k := rest_nil (rows_nil h.1)
theorem loopRw (w : World) (V : Vol) : ∀ (rem : List (List Str)) (F : List String), F = [] ∨ F = ["row"] → ∀ done, CtOk w V (ctL w.params 60 eRow ["row"] F SrcRows AccR done rem) := ctL_ok w V rfl ⟨_, _, _, _, _, _, _, rfl⟩ (fun _ _ _ h => srcRows_nil h) fun F hF done y rem hC => mkC_ok 60 rfl fun x q gs tk post h n gz => by
  obtain ⟨hsrc0, hacc, hfw0, rfl, hq⟩ := h
  obtain ⟨a0, z0, e0, hat, hm, hw, ⟨hne, hl⟩, hsrc⟩ := srcRows_cons hsrc0
  obtain ⟨y0, y1, rfl⟩ := List.exists_cons_of_ne_nil hne
  generalize hy : y0 :: y1 = y at *
  have hys : x.ys.size ≤ 1000000 := few_ys hfw0 (by have := TextsOf.size hacc; rwa [List.length_map] at this)
  have hfw := few_next hfw0
  have hs2 : ∀ q, SrcTexts z0 0 y q := fun q => ⟨y, hw, rfl⟩
  have ha2 : ∀ q, AccW #[] [] q := fun q => textsNil
  have hf2 : Few ([] : List Str) y := by show 0 + y.length ≤ 200; omega
  have hj : ∀ (ys' : Array Value) (q' : List (Nat × Obj)), AccW ys' ([] ++ y) q' → TextsOf ys' (y.map fun x => S " " ++ x) := fun _ _ h => h
  have e : S "" = Str.empty := by decide +kernel
  have hj2 : JoinTo (S "") (y.map fun x => S " " ++ x) (rendB y) := by
    have := fits_of (sep := S "") (l := y.map fun x => S " " ++ x) (by decide) (by rw [List.length_map]; exact hl) fun z hz => by
      obtain ⟨x, hx, rfl⟩ := List.mem_map.mp hz
      obtain ⟨a, b, e⟩ := hw.2 x hx
      rw [e, blank_eq]
      show (3 : Nat) ≤ 100
      decide
    unfold rendB
    rw [e] at this ⊢
    exact this
  have ha1 : ∀ (t : Nat) (q' : List (Nat × Obj)), AccR (x.ys.push (.str (rendB y) t)) (done ++ [y]) q' := fun t q' => by
    unfold AccR
    rw [List.map_append]
    exact TextsOf.push hacc _ _
  replace hq : ∀ (tk' ep' : Nat) (ys' : Array Value) (τ' ee' : Nat) (v' : Value) (io' : Obj) (q' : List (Nat × Obj)), AccR ys' (done ++ [y] ++ rem) q' → post (.ok .next) tk' [dcO [eZ w.params "row" τ' v'] ee', io', lstO ys' ep', lstO x.xs x.epx] [] [] := fun tk' ep' ys' τ' ee' v' io' nq h1 =>
    by have z := hq tk' ep' ys' τ' 0 ee' v' .none io' [] (by rw [← drop_app]; exact h1) (Nat.zero_le _); rw [frX_cons] at z; exact z
  obtain ⟨lo, I, A, p, k, qu, cd, fr, ys, ep, xs, epx, τ, v, τ2, v2, ee⟩ := x
  generalize rendB y = zr at hj2 ha1
  generalize (y.map fun x => S " " ++ x) = ls at hj hj2
  subst hy
  rcases hF with rfl | rfl
  · exact .go1 (subC hm sub0) (cC (ctLNext_ok w V (.ref (a0 + 247))) <| cC (ctQL_ok (a := a0) (xs := z0) (ep := e0) (ctS_ok (loopW w V (y0 :: y1) [] (.inl rfl) []))) <| cC (ctJoinL_ok w V ls zr) <| cC (ctApp_ok w V) <| c1 hC) [3,0,3,2,0,2,1,3,2,2,2,1,0,1,0,0,1,0,0,6,2,1,3,6,4,5,8,8,8,0,2,2,1,5,0,4,2,3,1,2,2,4,4,0,1,2,3] [] [] 0 (by kernel_rfl) (by kernel_rfl) (ai (r7 [I,I]) (ai (rf (lnC ((I, p, k, { cls := Value.type "list", data := Data.seq xs epx })))) (ai (rf true) (ai hat (fun (n' gz' : Nat) => ai (r7 [n',a0,a0,a0,lo,lo,lo]) (ai hm (ai (ai (rf (n' + 247)) (ai (rf true) (rf true))) (ai (rf (lxC w.params eWord [] ⟨n' + 2, n', n' + 1, a0, 0, qu, cd, fr, #[], 0, z0, e0, 0, Value.none, 0, Value.none, 0⟩)) (ai (hs2 (wo ([] ++ q) (a0 + 247))) (ai (ha2 (wo ([] ++ q) (a0 + 247))) (ai hf2 (ai (rf ([] : List (Nat × Code))) (fun (tk' : Nat) (ep' : Nat) (ys' : Array Value) (τ' : Nat) (σ' : Nat) (ee' : Nat) (v' : Value) (u' : Value) (io' : Obj) (nq : List (Nat × Obj)) (x : AccW ys' (y0 :: y1) (nq ++ wo ([] ++ q) (a0 + 247))) => fun (x1 : FewQ nq (y0 :: y1)) => ai (rf ({ cls := Value.type "list", data := Data.seq z0 e0 } : Obj)) (fun (n'1 gz'1 : Nat) => ai (r7 [n' + 2,n' + 2,n' + 2]) (ai (rf (jlC ((S "", tk + 1, n' + 1, ys', ep')))) (ai (hj ys' (nq ++ wo ([] ++ q) (a0 + 247)) x) (ai hj2 (fun (t tk'1 n'2 gz'2 : Nat) => ai (r7 [A]) (ai (rf (A + 247)) (ai hys (fun (ep'1 n'3 gz'3 : Nat) => ai (r7 []) (ai (rf (lxC w.params ((((Expr.Constant (Const.str (Str.ofString "")) 0 { line := 211, col := 34, endLine := 211, endCol := 36 }).Attribute (Str.ofString "join") { line := 211, col := 34, endLine := 211, endCol := 41 }).Call [((Expr.Constant (Const.str (Str.ofString " ")) 0 { line := 211, col := 43, endLine := 211, endCol := 46 }).BinOp Operator.Add (Expr.Name (Str.ofString "word") { line := 211, col := 49, endLine := 211, endCol := 53 }) { line := 211, col := 43, endLine := 211, endCol := 53 }).ListComp [{ target := Expr.Name (Str.ofString "word") { line := 211, col := 58, endLine := 211, endCol := 62 }, iter := Expr.Name (Str.ofString "row") { line := 211, col := 66, endLine := 211, endCol := 69 }, ifs := [], is_async := 0 }] { kind := ScopeKind.function, names := [(Str.ofString ".0", NameKind.local), (Str.ofString "word", NameKind.local)], isGenerator := false, isCoroutine := false } { line := 211, col := 42, endLine := 211, endCol := 70 }] [] { line := 211, col := 34, endLine := 211, endCol := 71 }).ListComp [{ target := Expr.Name (Str.ofString "row") { line := 211, col := 76, endLine := 211, endCol := 79 }, iter := (Expr.Name (Str.ofString "rows") { line := 211, col := 83, endLine := 211, endCol := 87 }).Subscript (Expr.Slice (some (Expr.Constant (Const.int 1) 0 { line := 211, col := 88, endLine := 211, endCol := 89 })) none none { line := 211, col := 88, endLine := 211, endCol := 90 }) { line := 211, col := 83, endLine := 211, endCol := 91 }, ifs := [], is_async := 0 }] { kind := ScopeKind.function, names := [(Str.ofString ".0", NameKind.local), (Str.ofString "row", NameKind.local)], isGenerator := false, isCoroutine := false } { line := 211, col := 33, endLine := 211, endCol := 92 }) ["row"] ⟨lo, I, A, p, k + 1, qu, cd, fr, ys.push (Value.str zr t), ep'1, xs, epx, tk, Value.ref (a0 + 247), 0, Value.none, ee + 1⟩)) (ai (hsrc nq) (ai (ha1 t (nq ++ q)) (ai hfw (ai (rf ([] : List (Nat × Code))) (fun (tk'2 : Nat) (ep'2 : Nat) (ys'1 : Array Value) (τ'1 : Nat) (σ'1 : Nat) (ee'1 : Nat) (v'1 : Value) (u'1 : Value) (io'1 : Obj) (nq1 : List (Nat × Obj)) (x2 : AccR ys'1 (done ++ [y0 :: y1] ++ rem) (nq1 ++ (nq ++ q))) => fun (x3 : FewQ nq1 rem) (n'4 gz'4 : Nat) => hq tk'2 ep'2 ys'1 τ'1 ee'1 v'1 io'1 (nq1 ++ (nq ++ q)) x2)))))))))))))))))))))))))))
  · exact .go1 (subC hm sub0) (cC (ctLNext_ok w V (.ref (a0 + 247))) <| cC (ctQL_ok (a := a0) (xs := z0) (ep := e0) (ctS_ok (loopW w V (y0 :: y1) [] (.inl rfl) []))) <| cC (ctJoinL_ok w V ls zr) <| cC (ctApp_ok w V) <| c1 hC) [3,0,3,2,0,2,1,3,2,2,2,1,0,1,0,0,1,0,0,6,2,1,3,6,4,5,8,8,8,0,2,2,1,5,0,4,2,3,1,2,2,4,4,0,1,2,3] [] [] 0 (by kernel_rfl) (by kernel_rfl) (ai (r7 [I,I]) (ai (rf (lnC ((I, p, k, { cls := Value.type "list", data := Data.seq xs epx })))) (ai (rf true) (ai hat (fun (n' gz' : Nat) => ai (r7 [n',a0,a0,a0,lo,lo,lo]) (ai hm (ai (ai (rf (n' + 247)) (ai (rf true) (rf true))) (ai (rf (lxC w.params eWord [] ⟨n' + 2, n', n' + 1, a0, 0, qu, cd, fr, #[], 0, z0, e0, 0, Value.none, 0, Value.none, 0⟩)) (ai (hs2 (wo ([] ++ q) (a0 + 247))) (ai (ha2 (wo ([] ++ q) (a0 + 247))) (ai hf2 (ai (rf ([] : List (Nat × Code))) (fun (tk' : Nat) (ep' : Nat) (ys' : Array Value) (τ' : Nat) (σ' : Nat) (ee' : Nat) (v' : Value) (u' : Value) (io' : Obj) (nq : List (Nat × Obj)) (x : AccW ys' (y0 :: y1) (nq ++ wo ([] ++ q) (a0 + 247))) => fun (x1 : FewQ nq (y0 :: y1)) => ai (rf ({ cls := Value.type "list", data := Data.seq z0 e0 } : Obj)) (fun (n'1 gz'1 : Nat) => ai (r7 [n' + 2,n' + 2,n' + 2]) (ai (rf (jlC ((S "", tk + 1, n' + 1, ys', ep')))) (ai (hj ys' (nq ++ wo ([] ++ q) (a0 + 247)) x) (ai hj2 (fun (t tk'1 n'2 gz'2 : Nat) => ai (r7 [A]) (ai (rf (A + 247)) (ai hys (fun (ep'1 n'3 gz'3 : Nat) => ai (r7 []) (ai (rf (lxC w.params ((((Expr.Constant (Const.str (Str.ofString "")) 0 { line := 211, col := 34, endLine := 211, endCol := 36 }).Attribute (Str.ofString "join") { line := 211, col := 34, endLine := 211, endCol := 41 }).Call [((Expr.Constant (Const.str (Str.ofString " ")) 0 { line := 211, col := 43, endLine := 211, endCol := 46 }).BinOp Operator.Add (Expr.Name (Str.ofString "word") { line := 211, col := 49, endLine := 211, endCol := 53 }) { line := 211, col := 43, endLine := 211, endCol := 53 }).ListComp [{ target := Expr.Name (Str.ofString "word") { line := 211, col := 58, endLine := 211, endCol := 62 }, iter := Expr.Name (Str.ofString "row") { line := 211, col := 66, endLine := 211, endCol := 69 }, ifs := [], is_async := 0 }] { kind := ScopeKind.function, names := [(Str.ofString ".0", NameKind.local), (Str.ofString "word", NameKind.local)], isGenerator := false, isCoroutine := false } { line := 211, col := 42, endLine := 211, endCol := 70 }] [] { line := 211, col := 34, endLine := 211, endCol := 71 }).ListComp [{ target := Expr.Name (Str.ofString "row") { line := 211, col := 76, endLine := 211, endCol := 79 }, iter := (Expr.Name (Str.ofString "rows") { line := 211, col := 83, endLine := 211, endCol := 87 }).Subscript (Expr.Slice (some (Expr.Constant (Const.int 1) 0 { line := 211, col := 88, endLine := 211, endCol := 89 })) none none { line := 211, col := 88, endLine := 211, endCol := 90 }) { line := 211, col := 83, endLine := 211, endCol := 91 }, ifs := [], is_async := 0 }] { kind := ScopeKind.function, names := [(Str.ofString ".0", NameKind.local), (Str.ofString "row", NameKind.local)], isGenerator := false, isCoroutine := false } { line := 211, col := 33, endLine := 211, endCol := 92 }) ["row"] ⟨lo, I, A, p, k + 1, qu, cd, fr, ys.push (Value.str zr t), ep'1, xs, epx, τ, Value.ref (a0 + 247), 0, Value.none, ee⟩)) (ai (hsrc nq) (ai (ha1 t (nq ++ q)) (ai hfw (ai (rf ([] : List (Nat × Code))) (fun (tk'2 : Nat) (ep'2 : Nat) (ys'1 : Array Value) (τ'1 : Nat) (σ'1 : Nat) (ee'1 : Nat) (v'1 : Value) (u'1 : Value) (io'1 : Obj) (nq1 : List (Nat × Obj)) (x2 : AccR ys'1 (done ++ [y0 :: y1] ++ rem) (nq1 ++ (nq ++ q))) => fun (x3 : FewQ nq1 rem) (n'4 gz'4 : Nat) => hq tk'2 ep'2 ys'1 τ'1 ee'1 v'1 io'1 (nq1 ++ (nq ++ q)) x2)))))))))))))))))))))))))))
end
end Mine

namespace Mine
open PySem PySem.W PySem.W.X
noncomputable section
noncomputable def EndsAt (xs : Array Value) (r : Option Nat) : Prop := match r with
  | none => xs.isEmpty = true
  | some j => ∃ (ys : Array Value) (t : Nat), xs = ys.push (.int (Int.ofNat j) t)
noncomputable def Found (xs : Array Value) (l : List Str) (cc j : Nat) : Prop := EndsAt xs (findBrk (wst l cc) j)
theorem wst_eq {l : List Str} {cc a b j : Nat} (h : l[j]? = some ⟨#[a, b]⟩) : wst l cc (j + 1) = (b == cc) := by
  unfold wst
  rw [Nat.add_sub_cancel, h]
  show (some b == some cc) = _
  rfl
theorem found_hit {xs : Array Value} {l : List Str} {cc j t : Nat} (h : wst l cc (j + 1) = true) : Found (xs.push (.int (Int.ofNat (j + 1)) t)) l cc (j + 1) := by
  unfold Found findBrk
  rw [h]
  exact ⟨xs, t, rfl⟩
theorem found_miss {xs : Array Value} {l : List Str} {cc j : Nat} (h : wst l cc (j + 1) = false) (hf : Found xs l cc j) : Found xs l cc (j + 1) := by
  unfold Found at *
  unfold findBrk
  rw [h]
  exact hf
structure Kx where
  lo : Nat
  I : Nat
  A : Nat
  cm : Nat
  cl : Nat
  jj : Int
  kk : Int
  qu : Str
  cd : Value
  fr : Nat
  mt : Nat
  ys : Array Value
  ep : Nat
  τ : Nat
  v : Value
  ee : Nat
noncomputable def cellV (o : Obj) : Value := match o.data with
  | .cell (some v) => v
  | _ => .none
noncomputable def frK (P : Params) (F : List String) (τ : Nat) (v : Value) (ee : Nat) : Obj := match F with
  | [] => dcO [] ee
  | a :: _ => dcO [eZ P a τ v] ee
noncomputable def kxS (c : Code) (L : List (Nat × Obj)) : Kx := ⟨lA L 0, lA L 1, lA L 2, lA L 3, lA L 4, vI (atV (oFld (lO L 1)) 0), vI (atV (oFld (lO L 1)) 1), (cpEnv c).qual, (cpEnv c).code, frN (cpEnv c).frame, vT (cellV (lO L 3)), oSeq (lO L 2), oEp (lO L 2), eT (lO L 0) 0, eV (lO L 0) 0, oEp (lO L 0)⟩
noncomputable def kxC (P : Params) (F : List String) (lf cc : Nat) (x : Kx) : Cl := ⟨lcCode eK (x.I + 247) (x.A + 247) (lcEnv eK (x.lo + 247) [(S "mark", x.cm + 247), (S "left", x.cl + 247)] x.qu x.cd (some x.fr)),
  [(x.lo + 247, frK P F x.τ x.v x.ee), (x.I + 247, ruO x.jj x.kk), (x.A + 247, lstO x.ys x.ep), (x.cm + 247, clO (.str ⟨#[cc]⟩ x.mt)), (x.cl + 247, clO (.ref (lf + 247)))]⟩
noncomputable def frKE (P : Params) (F : List String) (k : Nat) (ee0 τ : Nat) (v : Value) (ee : Nat) : Obj := match F with
  | [] => match k with
    | 0 => dcO [] ee0
    | _ + 1 => dcO [eZ P "k" τ v] ee
  | _ :: _ => dcO [eZ P "k" τ v] ee
noncomputable def KOk (P : Params) (F : List String) (lf : Nat) (ws : Array Value) (wep : Nat) (l : List Str) (cc k j : Nat) (x : Kx) (q : List (Nat × Obj)) (gs : List (Nat × Code)) (post : Post) : Prop :=
  (lf + 247, lstO ws wep) ∈ q ∧ Words ws l ∧ j + k ≤ l.length ∧ l.length ≤ 100 ∧ x.jj = Int.ofNat j ∧ x.kk = Int.ofNat k ∧ SzLe x.ys j ∧ Found x.ys l cc j ∧ gs = [] ∧
    ∀ (tk' ep' : Nat) (ys' : Array Value) (τ' ee' : Nat) (v' : Value) (io' : Obj), Found ys' l cc (j + k) → SzLe ys' 100 → post (.ok .next) tk' [frKE P F k x.ee τ' v' ee', io', lstO ys' ep', clO (.str ⟨#[cc]⟩ x.mt), clO (.ref (lf + 247))] [] []
noncomputable def ctK (P : Params) (F : List String) (lf : Nat) (ws : Array Value) (wep : Nat) (l : List Str) (cc k j : Nat) : Ct := mkC 40 (fun c L _ => kxS c L) (kxC P F lf cc) fun x q gs tk post => KOk P F lf ws wep l cc k j x q gs post
theorem kEnd (w : World) (V : Vol) {elt target iter : Expr} {ifs : List Expr} {scope : Scope} {pos : Pos} {env : Env} {lo I A ca cb tk n gz : Nat} {j : Int} {fo ao o1 o2 : Obj} {q : List (Nat × Obj)} {post : Post}
    (hq : ∀ (tk' : Nat) (io' : Obj), post (.ok .next) tk' [fo, io', ao, o1, o2] [] []) :
    Runs w V 20 (.compLoop (.ListComp elt [⟨target, iter, ifs, 0⟩] scope pos) 0 (.ref (I + 247)) (.ref (A + 247)) env) [(lo + 247, fo), (I + 247, ruO j (Int.ofNat 0)), (A + 247, ao), (ca + 247, o1), (cb + 247, o2)] q [] tk n gz post := by
  exact .go1 sub0 c0 [3,0,3,0,3,3,3,8] [] [] 0 (by kernel_rfl) (by kernel_rfl) (ai (r7 [n + 1,I,I,I,I,I]) (hq tk ({ cls := Value.type "range_iterator", data := Data.fields #[Value.int j 0, Value.int 0 0, Value.int 1 0] })))
theorem eK_lc : ∃ elt target iter ifs scope pos, eK = .ListComp elt [⟨target, iter, ifs, 0⟩] scope pos := ⟨_, _, _, _, _, _, rfl⟩
theorem ctK_ok (w : World) (V : Vol) {lf : Nat} {ws : Array Value} {wep : Nat} {l : List Str} {cc : Nat} : ∀ (k j : Nat) (F : List String), F = [] ∨ F = ["k"] → CtOk w V (ctK w.params F lf ws wep l cc k j)
  | 0, j, F, hF => mkC_ok 20 rfl fun x q gs tk post h n gz => by
    obtain ⟨hm, hw, hl1, hl2, hj, hk, hs, hf, rfl, hq⟩ := h
    obtain ⟨elt, target, iter, ifs, scope, pos, he⟩ := eK_lc
    show Runs w V 20 (.compLoop eK 0 (.ref (x.I + 247)) (.ref (x.A + 247)) (lcEnv eK (x.lo + 247) [(S "mark", x.cm + 247), (S "left", x.cl + 247)] x.qu x.cd (some x.fr))) [_, (_, ruO x.jj x.kk), _, _, _] _ _ _ _ _ _
    generalize lcEnv eK (x.lo + 247) [(S "mark", x.cm + 247), (S "left", x.cl + 247)] x.qu x.cd (some x.fr) = env
    rw [he, hk]
    rcases hF with rfl | rfl
    · exact kEnd w V fun tk' io' => hq _ _ _ 0 0 .none _ hf (Nat.le_trans hs (by omega))
    · exact kEnd w V fun tk' io' => hq _ _ _ x.τ x.ee x.v _ hf (Nat.le_trans hs (by omega))
  | k + 1, j, F, hF => mkC_ok 40 rfl fun x q gs tk post h n gz => by
    obtain ⟨hm, hw, hl1, hl2, hj, hk, hs, hf, rfl, hq⟩ := h
    have hC := ctK_ok w V (lf := lf) (ws := ws) (wep := wep) (l := l) (cc := cc) k (j + 1) ["k"] (.inr rfl)
    obtain ⟨a1, b1, t1, hx, hlx⟩ := words_at hw (show j < l.length by omega)
    have hat : AtI ws (Int.ofNat j) (.str ⟨#[a1, b1]⟩ t1) := hx
    have hwe := wst_eq (cc := cc) hlx
    have h0 : 0 ≤ Int.ofNat j := Int.natCast_nonneg j
    have h1 : Int.ofNat j < 1000000 := by show (j : Int) < 1000000; omega
    have h2 : Int.ofNat (k + 1) - 1 = Int.ofNat k := by show ((k + 1 : Nat) : Int) - 1 = (k : Int); omega
    have h3 : j + 1 + k ≤ l.length := by omega
    have hsz : x.ys.size ≤ 1000000 := Nat.le_trans hs (by omega)
    have hs1 : ∀ v : Value, SzLe (x.ys.push v) (j + 1) := fun v => by unfold SzLe; rw [Array.size_push]; exact Nat.succ_le_succ hs
    have hs2 : SzLe x.ys (j + 1) := Nat.le_trans hs (Nat.le_succ _)
    replace hq : ∀ (tk' ep' : Nat) (ys' : Array Value) (τ' ee' : Nat) (v' : Value) (io' : Obj), Found ys' l cc (j + 1 + k) → SzLe ys' 100 → post (.ok .next) tk' [dcO [eZ w.params "k" τ' v'] ee', io', lstO ys' ep', clO (.str ⟨#[cc]⟩ x.mt), clO (.ref (lf + 247))] [] [] := fun tk' ep' ys' τ' ee' v' io' h1 h2 => by
      have z := hq tk' ep' ys' τ' ee' v' io' (by rw [show j + (k + 1) = j + 1 + k by omega]; exact h1) h2
      rcases hF with rfl | rfl <;> exact z
    obtain ⟨lo, I, A, cm, cl, jj, kk, qu, cd, fr, mt, ys, ep, τ, v, ee⟩ := x
    obtain rfl := hj
    obtain rfl := hk
    cases hbc : (b1 == cc) with
    | true =>
      have hte : TextEq ⟨#[b1]⟩ ⟨#[cc]⟩ true := by show ([b1] == [cc]) = true; simpa using hbc
      have hfo : ∀ t : Nat, Found (ys.push (.int (Int.ofNat (j + 1)) t)) l cc (j + 1) := fun t => found_hit (hwe.trans hbc)
      rcases hF with rfl | rfl
      · exact .go1 (subC hm sub0) (cC (ctQ_ok (a := lf) (xs := ws) (ep := wep) (ctGet_ok w V (.str ⟨#[a1, b1]⟩ t1))) <| cC (ctEq_ok w V true) <| cC hC <| c1 (ctApp_ok w V)) [3,0,3,0,3,3,3,3,3,3,3,2,2,6,2,1,0,1,0,1,0,0,1,0,2,0,0,0,0,0,0,5,0,2,1,0,2,0,0,0,4,2,3,1,2,2,2,5,0,1,2,3,4] [] [] 0 (by kernel_rfl) (by kernel_rfl) (ai (r7 [lf,lf,lf,lf,lo,cl,lo,lo,I,I,I,I,I,I,I,I,I]) (ai hm (ai (rf (lf + 247)) (ai h0 (ai h1 (ai hat (ai (rf ({ cls := Value.type "list", data := Data.seq ws wep } : Obj)) (fun (n' gz' : Nat) => ai (r7 [cm]) (ai hte (fun (n'1 gz'1 : Nat) => ai (r7 [A,lo]) (ai (rf (A + 247)) (ai hsz (fun (ep' n'2 gz'2 : Nat) => ai (r7 []) (ai (rf (kxC w.params ["k"] lf cc ⟨lo, I, A, cm, cl, Int.ofNat (j + 1), Int.ofNat (k + 1) - 1, qu, cd, fr, mt, ys.push (Value.int (Int.ofNat (j + 1)) (tk + 6)), ep', tk + 1, Value.int (Int.ofNat j) tk, ee + 1⟩)) (ai hm (ai hw (ai h3 (ai hl2 (ai (rf (Int.ofNat (j + 1) : Int)) (ai h2 (ai (hs1 (Value.int (Int.ofNat (j + 1)) (tk + 6))) (ai (hfo (tk + 6)) (ai (rf ([] : List (Nat × Code))) (fun (tk' ep'1 : Nat) (ys' : Array Value) (τ' ee' : Nat) (v' : Value) (io' : Obj) (x : Found ys' l cc (j + 1 + k)) (x1 : SzLe ys' 100) (n'3 gz'3 : Nat) => hq tk' ep'1 ys' τ' ee' v' io' x x1))))))))))))))))))))))))
      · exact .go1 (subC hm sub0) (cC (ctQ_ok (a := lf) (xs := ws) (ep := wep) (ctGet_ok w V (.str ⟨#[a1, b1]⟩ t1))) <| cC (ctEq_ok w V true) <| cC hC <| c1 (ctApp_ok w V)) [3,0,3,0,3,3,3,3,3,3,3,2,2,6,2,1,0,1,0,1,0,0,1,0,2,0,0,0,0,0,0,5,0,2,1,0,2,0,0,0,4,2,3,1,2,2,2,5,0,1,2,3,4] [] [] 0 (by kernel_rfl) (by kernel_rfl) (ai (r7 [lf,lf,lf,lf,lo,cl,lo,lo,I,I,I,I,I,I,I,I,I]) (ai hm (ai (rf (lf + 247)) (ai h0 (ai h1 (ai hat (ai (rf ({ cls := Value.type "list", data := Data.seq ws wep } : Obj)) (fun (n' gz' : Nat) => ai (r7 [cm]) (ai hte (fun (n'1 gz'1 : Nat) => ai (r7 [A,lo]) (ai (rf (A + 247)) (ai hsz (fun (ep' n'2 gz'2 : Nat) => ai (r7 []) (ai (rf (kxC w.params ["k"] lf cc ⟨lo, I, A, cm, cl, Int.ofNat (j + 1), Int.ofNat (k + 1) - 1, qu, cd, fr, mt, ys.push (Value.int (Int.ofNat (j + 1)) (tk + 6)), ep', τ, Value.int (Int.ofNat j) tk, ee⟩)) (ai hm (ai hw (ai h3 (ai hl2 (ai (rf (Int.ofNat (j + 1) : Int)) (ai h2 (ai (hs1 (Value.int (Int.ofNat (j + 1)) (tk + 6))) (ai (hfo (tk + 6)) (ai (rf ([] : List (Nat × Code))) (fun (tk' ep'1 : Nat) (ys' : Array Value) (τ' ee' : Nat) (v' : Value) (io' : Obj) (x : Found ys' l cc (j + 1 + k)) (x1 : SzLe ys' 100) (n'3 gz'3 : Nat) => hq tk' ep'1 ys' τ' ee' v' io' x x1))))))))))))))))))))))))
    | false =>
      have hte : TextEq ⟨#[b1]⟩ ⟨#[cc]⟩ false := by show ([b1] == [cc]) = false; simpa using hbc
      have hfo := found_miss (hwe.trans hbc) hf
      rcases hF with rfl | rfl
      · exact .go1 (subC hm sub0) (cC (ctQ_ok (a := lf) (xs := ws) (ep := wep) (ctGet_ok w V (.str ⟨#[a1, b1]⟩ t1))) <| cC (ctEq_ok w V false) <| c1 hC) [3,0,3,0,3,3,3,3,3,3,3,2,2,6,2,1,0,1,0,1,0,0,1,0,2,0,0,0,0,0,0,5,0,2,1,0,2,2,5,0,1,2,3,4] [] [] 0 (by kernel_rfl) (by kernel_rfl) (ai (r7 [lf,lf,lf,lf,lo,cl,lo,lo,I,I,I,I,I,I,I,I,I]) (ai hm (ai (rf (lf + 247)) (ai h0 (ai h1 (ai hat (ai (rf ({ cls := Value.type "list", data := Data.seq ws wep } : Obj)) (fun (n' gz' : Nat) => ai (r7 [cm]) (ai hte (fun (n'1 gz'1 : Nat) => ai (r7 []) (ai (rf (kxC w.params ["k"] lf cc ⟨lo, I, A, cm, cl, Int.ofNat (j + 1), Int.ofNat (k + 1) - 1, qu, cd, fr, mt, ys, ep, tk + 1, Value.int (Int.ofNat j) tk, ee + 1⟩)) (ai hm (ai hw (ai h3 (ai hl2 (ai (rf (Int.ofNat (j + 1) : Int)) (ai h2 (ai hs2 (ai hfo (ai (rf ([] : List (Nat × Code))) (fun (tk' ep' : Nat) (ys' : Array Value) (τ' ee' : Nat) (v' : Value) (io' : Obj) (x : Found ys' l cc (j + 1 + k)) (x1 : SzLe ys' 100) (n'2 gz'2 : Nat) => hq tk' ep' ys' τ' ee' v' io' x x1)))))))))))))))))))))
      · exact .go1 (subC hm sub0) (cC (ctQ_ok (a := lf) (xs := ws) (ep := wep) (ctGet_ok w V (.str ⟨#[a1, b1]⟩ t1))) <| cC (ctEq_ok w V false) <| c1 hC) [3,0,3,0,3,3,3,3,3,3,3,2,2,6,2,1,0,1,0,1,0,0,1,0,2,0,0,0,0,0,0,5,0,2,1,0,2,2,5,0,1,2,3,4] [] [] 0 (by kernel_rfl) (by kernel_rfl) (ai (r7 [lf,lf,lf,lf,lo,cl,lo,lo,I,I,I,I,I,I,I,I,I]) (ai hm (ai (rf (lf + 247)) (ai h0 (ai h1 (ai hat (ai (rf ({ cls := Value.type "list", data := Data.seq ws wep } : Obj)) (fun (n' gz' : Nat) => ai (r7 [cm]) (ai hte (fun (n'1 gz'1 : Nat) => ai (r7 []) (ai (rf (kxC w.params ["k"] lf cc ⟨lo, I, A, cm, cl, Int.ofNat (j + 1), Int.ofNat (k + 1) - 1, qu, cd, fr, mt, ys, ep, τ, Value.int (Int.ofNat j) tk, ee⟩)) (ai hm (ai hw (ai h3 (ai hl2 (ai (rf (Int.ofNat (j + 1) : Int)) (ai h2 (ai hs2 (ai hfo (ai (rf ([] : List (Nat × Code))) (fun (tk' ep' : Nat) (ys' : Array Value) (τ' ee' : Nat) (v' : Value) (io' : Obj) (x : Found ys' l cc (j + 1 + k)) (x1 : SzLe ys' 100) (n'2 gz'2 : Nat) => hq tk' ep' ys' τ' ee' v' io' x x1)))))))))))))))))))))
end
end Mine

namespace Mine
open PySem PySem.W PySem.W.X
noncomputable section
noncomputable def cl0 : Obj := { cls := .type "cell", data := .cell none }
noncomputable def OneOf (z : Array Value) (r : Option Nat) : Prop := match r with
  | none => z = #[]
  | some j => ∃ t, z = #[.int (Int.ofNat j) t]
noncomputable def CutsOf : List Value → List (Option Nat) → List (Nat × Obj) → Prop
  | [], [], _ => True
  | .ref a :: vs, r :: rs, q => (∃ z, (a, lstO z 0) ∈ q ∧ OneOf z r) ∧ 247 ≤ a ∧ CutsOf vs rs q
  | _, _, _ => False
theorem found0 (l : List Str) (cc : Nat) : Found #[] l cc 0 := by
  unfold Found findBrk EndsAt
  rfl
theorem last_of {xs z : Array Value} {r : Option Nat} (h : EndsAt xs r) (hz : SliceOf xs (some (-1)) none z) : OneOf z r := by
  unfold SliceOf at hz
  subst hz
  cases r with
  | none =>
    have : xs = #[] := by simpa [EndsAt] using h
    subst this
    rfl
  | some j =>
    obtain ⟨ys, t, rfl⟩ := h
    refine ⟨t, ?_⟩
    rw [slicePick_plain]
    have e : clipAt (ys.push (Value.int (Int.ofNat j) t)).size (-1) = ys.size := by
      unfold clipAt
      rw [Array.size_push]
      have : ((-1 : Int) < 0) := by decide
      simp only [this, if_true]
      omega
    simp only [Option.elim, e]
    rw [Array.size_push, Array.toList_push, List.drop_left' (by simp)]
    simp
structure Cx where
  lo : Nat
  I : Nat
  A : Nat
  cm : Nat
  cr : Nat
  cl : Nat
  qu : Str
  cd : Value
  fr : Nat
  ee : Nat
  t : Nat
  ep : Nat
  u : Nat
noncomputable def cxS (c : Code) (L : List (Nat × Obj)) : Cx := ⟨lA L 0, lA L 1, lA L 2, lA L 3, lA L 4, lA L 5, (cpEnv c).qual, (cpEnv c).code, frN (cpEnv c).frame, oEp (lO L 0), vT (atV (oFld (lO L 1)) 0), oEp (lO L 2), vT (cellV (lO L 4))⟩
noncomputable def cxC (lf m : Nat) (M : List Nat) (x : Cx) : Cl := ⟨lcCode eCuts (x.I + 247) (x.A + 247) (lcEnv eCuts (x.lo + 247) [(S "mark", x.cm + 247), (S "room", x.cr + 247), (S "left", x.cl + 247)] x.qu x.cd (some x.fr)),
  [(x.lo + 247, dcO [] x.ee), (x.I + 247, siO ⟨M.toArray⟩ x.t 0), (x.A + 247, lstO #[] x.ep), (x.cm + 247, cl0), (x.cr + 247, clO (.int (Int.ofNat m) x.u)), (x.cl + 247, clO (.ref (lf + 247)))]⟩
noncomputable def ctCuts (lf : Nat) (ws : Array Value) (wep : Nat) (l : List Str) (m : Nat) (M : List Nat) (rs : List (Option Nat)) : Ct := mkC 70 (fun c L _ => cxS c L) (cxC lf m M) fun x q gs tk post =>
  (lf + 247, lstO ws wep) ∈ q ∧ Words ws l ∧ m ≤ l.length ∧ l.length ≤ 100 ∧ MOk M ∧ gs = [] ∧
    ∀ (tk' ep' ee' mt' : Nat) (ys' : Array Value) (io' : Obj) (mk' : Str) (nq : List (Nat × Obj)), CutsOf ys'.toList rs (nq ++ q) → nq.length ≤ 2 → post (.ok .next) tk' [dcO [] ee', io', lstO ys' ep', clO (.str mk' mt'), clO (.int (Int.ofNat m) x.u), clO (.ref (lf + 247))] [] nq
theorem ctCuts_ok (w : World) (V : Vol) {lf : Nat} {ws : Array Value} {wep : Nat} {l : List Str} {m : Nat} {M : List Nat} {rs : List (Option Nat)} (hrs : (M.map fun c => findBrk (wst l c) m) = rs) : CtOk w V (ctCuts lf ws wep l m M rs) := mkC_ok 70 rfl fun x q gs tk post h n gz => by
  subst hrs
  obtain ⟨hm, hw, hl1, hl2, ⟨hM, _⟩, rfl, hq⟩ := h
  have hK := fun cc => ctS_ok (ctK_ok w V (lf := lf) (ws := ws) (wep := wep) (l := l) (cc := cc) m 0 [] (.inl rfl))
  have hm1 : m ≤ 1000 := by omega
  have hm2 : ∀ p : Nat × Obj, (lf + 247, lstO ws wep) ∈ [p] ++ q := fun p => List.mem_cons_of_mem _ hm
  have hl3 : 0 + m ≤ l.length := by omega
  have hf0 := fun cc => found0 l cc
  have hs0 : SzLe #[] 0 := Nat.le_refl 0
  have hs1 : ∀ ys, SzLe ys 100 → SzLe ys 1000 := fun ys h => Nat.le_trans h (by decide)
  have hz0 : (#[] : Array Value).size ≤ 1000000 := Nat.zero_le _
  have hz1 : ∀ v : Value, (#[v] : Array Value).size ≤ 1000000 := fun v => Nat.le_of_ble_eq_true rfl
  have hone : ∀ (c : Nat) (ys z : Array Value), Found ys l c (0 + m) → SliceOf ys (some (-1)) none z → OneOf z (findBrk (wst l c) m) := fun c ys z h1 h2 => by
    rw [Nat.zero_add] at h1
    exact last_of h1 h2
  obtain ⟨c1, rfl | ⟨c2, rfl⟩⟩ := hM
  · replace hq : ∀ (tk' ep' ee' mt' r : Nat) (ys z : Array Value) (io' : Obj) (mk' : Str), Found ys l c1 (0 + m) → SliceOf ys (some (-1)) none z → post (.ok .next) tk' [dcO [] ee', io', lstO #[.ref (r + 247)] ep', clO (.str mk' mt'), clO (.int (Int.ofNat m) x.u), clO (.ref (lf + 247))] [] [(r + 247, lstO z 0)] := fun tk' ep' ee' mt' r ys z io' mk' h1 h2 =>
      hq tk' ep' ee' mt' _ io' mk' _ ⟨⟨z, List.mem_cons_self .., hone _ _ _ h1 h2⟩, Nat.le_add_left _ _, trivial⟩ (by simp)
    obtain ⟨lo, I, A, cm, cr, cl, qu, cd, fr, ee, t, ep, u⟩ := x
    cases m with
    | zero =>
      exact .go1 (subC hm sub0) (cC (hK c1) <| cC (ctKNew_ok w V 0) <| cC (ctKIter_ok w V 0) <| cC (ctN_ok (ctSlc_ok w V)) <| Mine.c1 (ctApp_ok w V)) [3,0,3,0,3,3,3,3,5,5,0,0,6,0,0,0,2,1,0,8,8,0,8,0,8,8,8,0,8,2,2,1,6,9,2,0,5,9,7,8,3,5,11,0,0,10,10,10,0,10,2,3,2,8,10,0,0,4,2,4,1,2,0,3,0,3,0,3,3,3,3,14] [] [] 1 (by kernel_rfl) (by kernel_rfl) (ai (r7 [cr,cm,cm,I,I,I,I,I,I]) (ai (rf (rkC 0 u)) (ai hm1 (fun (r n' gz' : Nat) => ai (r7 [r,r,r,r,r,r,r]) (ai (rf (kiC 0 ((r, tk + 1, u, tk + 2)))) (ai hm1 (fun (n1 n'1 gz'1 : Nat) => ai (r7 [n1]) (ai (ai (rf (n1 + 247)) (ai (rf true) (rf true))) (ai (rf (kxC w.params [] lf c1 ⟨n'1 + 1, n1, n'1, cm, cl, 0, 0, qu, cd, fr, tk, #[], 0, 0, Value.none, 0⟩)) (ai hm (ai hw (ai hl3 (ai hl2 (ai (rf (0 : Int)) (ai (rf (0 : Int)) (ai hs0 (ai (hf0 c1) (ai (rf ([] : List (Nat × Code))) (fun (tk' ep' : Nat) (ys' : Array Value) (τ' ee' : Nat) (v' : Value) (io' : Obj) (x : Found ys' l c1 0) (x1 : SzLe ys' 100) (n'2 gz'2 : Nat) => ai (r7 [n'1,n'1,n'1,n'1,n'1 + 1]) (ai (rf (n'1 + 247)) (ai (rf (n'2 + 247)) (ai (hs1 ys' x1) (fun (r1 : Nat) (z : Array Value) (x2 : SliceOf ys' (some (-1)) none z) => fun (n'3 gz'3 : Nat) => ai (r7 [A]) (ai (rf (A + 247)) (ai hz0 (fun (ep'1 n'4 gz'4 : Nat) => ai (r7 [n'4 + 1,I,I,I,I,I,I]) (hq (tk' + 2) ep'1 ee tk r1 ys' z ({ cls := Value.type "str_ascii_iterator", data := Data.fields #[Value.none, Value.int 1 0] }) ({ cps := #[c1] }) x x2)))))))))))))))))))))))))))
    | succ m =>
      exact .go1 (subC hm sub0) (cC (hK c1) <| cC (ctKNew_ok w V (m + 1)) <| cC (ctKIter_ok w V (m + 1)) <| cC (ctN_ok (ctSlc_ok w V)) <| Mine.c1 (ctApp_ok w V)) [3,0,3,0,3,3,3,3,5,5,0,0,6,0,0,0,2,1,0,8,8,0,8,0,8,8,8,0,8,2,2,1,6,9,2,0,5,9,7,8,3,5,11,11,11,0,0,10,10,10,0,10,2,3,2,8,10,0,0,4,2,4,1,2,0,3,0,3,0,3,3,3,3,14] [] [] 1 (by kernel_rfl) (by kernel_rfl) (ai (r7 [cr,cm,cm,I,I,I,I,I,I]) (ai (rf (rkC (m + 1) u)) (ai hm1 (fun (r n' gz' : Nat) => ai (r7 [r,r,r,r,r,r,r]) (ai (rf (kiC (m + 1) ((r, tk + 1, u, tk + 2)))) (ai hm1 (fun (n1 n'1 gz'1 : Nat) => ai (r7 [n1]) (ai (ai (rf (n1 + 247)) (ai (rf true) (rf true))) (ai (rf (kxC w.params [] lf c1 ⟨n'1 + 1, n1, n'1, cm, cl, 0, Int.ofNat (m + 1), qu, cd, fr, tk, #[], 0, 0, Value.none, 0⟩)) (ai hm (ai hw (ai hl3 (ai hl2 (ai (rf (0 : Int)) (ai (rf (Int.ofNat (m + 1) : Int)) (ai hs0 (ai (hf0 c1) (ai (rf ([] : List (Nat × Code))) (fun (tk' : Nat) (ep' : Nat) (ys' : Array Value) (τ' : Nat) (ee' : Nat) (v' : Value) (io' : Obj) (x : Found ys' l c1 (0 + (m + 1))) => fun (x1 : SzLe ys' 100) (n'2 gz'2 : Nat) => ai (r7 [n'1,n'1,n'1,n'1,n'1 + 1,n'1 + 1,n'1 + 1]) (ai (rf (n'1 + 247)) (ai (rf (n'2 + 247)) (ai (hs1 ys' x1) (fun (r1 : Nat) (z : Array Value) (x2 : SliceOf ys' (some (-1)) none z) => fun (n'3 gz'3 : Nat) => ai (r7 [A]) (ai (rf (A + 247)) (ai hz0 (fun (ep'1 n'4 gz'4 : Nat) => ai (r7 [n'4 + 1,I,I,I,I,I,I]) (hq (tk' + 2) ep'1 ee tk r1 ys' z ({ cls := Value.type "str_ascii_iterator", data := Data.fields #[Value.none, Value.int 1 0] }) ({ cps := #[c1] }) x x2)))))))))))))))))))))))))))
  · replace hq : ∀ (tk' ep' ee' mt' r r2 : Nat) (ys z ys2 z2 : Array Value) (io' : Obj) (mk' : Str), Found ys l c1 (0 + m) → SliceOf ys (some (-1)) none z → Found ys2 l c2 (0 + m) → SliceOf ys2 (some (-1)) none z2 → post (.ok .next) tk' [dcO [] ee', io', lstO #[.ref (r + 247), .ref (r2 + 247)] ep', clO (.str mk' mt'), clO (.int (Int.ofNat m) x.u), clO (.ref (lf + 247))] [] [(r2 + 247, lstO z2 0), (r + 247, lstO z 0)] := fun tk' ep' ee' mt' r r2 ys z ys2 z2 io' mk' h1 h2 h3 h4 =>
      hq tk' ep' ee' mt' _ io' mk' _ ⟨⟨z, List.mem_cons_of_mem _ (List.mem_cons_self ..), hone _ _ _ h1 h2⟩, Nat.le_add_left _ _, ⟨z2, List.mem_cons_self .., hone _ _ _ h3 h4⟩, Nat.le_add_left _ _, trivial⟩ (by simp)
    obtain ⟨lo, I, A, cm, cr, cl, qu, cd, fr, ee, t, ep, u⟩ := x
    cases m with
    | zero =>
      exact .go1 (subC hm sub0) (cC (hK c1) <| cC (ctKNew_ok w V 0) <| cC (ctKIter_ok w V 0) <| cC (ctN_ok (ctSlc_ok w V)) <| cC (ctApp_ok w V) <| Mine.c1 (hK c2)) [3,0,3,0,3,3,3,3,5,5,0,0,6,0,0,0,2,1,0,8,8,0,8,0,8,8,8,0,8,2,2,1,6,9,2,0,5,9,7,8,3,5,11,0,0,10,10,10,0,10,2,3,2,8,10,0,0,4,2,4,1,2,0,3,0,3,0,3,3,3,3,5,5,0,0,6,0,0,0,2,1,0,13,13,0,13,0,13,13,13,0,13,2,2,1,11,14,2,5,5,14,12,13,3,5,16,0,0,15,15,15,0,15,2,3,2,13,15,0,0,4,2,4,1,2,0,3,0,3,0,3,3,3,3,19] [] [] 2 (by kernel_rfl) (by kernel_rfl) (ai (r7 [cr,cm,cm,I,I,I,I,I,I]) (ai (rf (rkC 0 u)) (ai hm1 (fun (r n' gz' : Nat) => ai (r7 [r,r,r,r,r,r,r]) (ai (rf (kiC 0 ((r, tk + 1, u, tk + 2)))) (ai hm1 (fun (n1 n'1 gz'1 : Nat) => ai (r7 [n1]) (ai (ai (rf (n1 + 247)) (ai (rf true) (rf true))) (ai (rf (kxC w.params [] lf c1 ⟨n'1 + 1, n1, n'1, cm, cl, 0, 0, qu, cd, fr, tk, #[], 0, 0, Value.none, 0⟩)) (ai hm (ai hw (ai hl3 (ai hl2 (ai (rf (0 : Int)) (ai (rf (0 : Int)) (ai hs0 (ai (hf0 c1) (ai (rf ([] : List (Nat × Code))) (fun (tk' ep' : Nat) (ys' : Array Value) (τ' ee' : Nat) (v' : Value) (io' : Obj) (x : Found ys' l c1 0) (x1 : SzLe ys' 100) (n'2 gz'2 : Nat) => ai (r7 [n'1,n'1,n'1,n'1,n'1 + 1]) (ai (rf (n'1 + 247)) (ai (rf (n'2 + 247)) (ai (hs1 ys' x1) (fun (r1 : Nat) (z : Array Value) (x2 : SliceOf ys' (some (-1)) none z) => fun (n'3 gz'3 : Nat) => ai (r7 [A]) (ai (rf (A + 247)) (ai hz0 (fun (ep'1 n'4 gz'4 : Nat) => ai (r7 [cr,cm,cm,I,I,I,I,I,I]) (ai (rf (rkC 0 u)) (ai hm1 (fun (r2 n'5 gz'5 : Nat) => ai (r7 [r2,r2,r2,r2,r2,r2,r2]) (ai (rf (kiC 0 ((r2, tk' + 3, u, tk' + 4)))) (ai hm1 (fun (n2 n'6 gz'6 : Nat) => ai (r7 [n2]) (ai (ai (rf (n2 + 247)) (ai (rf true) (rf true))) (ai (rf (kxC w.params [] lf c2 ⟨n'6 + 1, n2, n'6, cm, cl, 0, 0, qu, cd, fr, tk' + 2, #[], 0, 0, Value.none, 0⟩)) (ai (hm2 ((r1 + 247, { cls := Value.type "list", data := Data.seq z }))) (ai hw (ai hl3 (ai hl2 (ai (rf (0 : Int)) (ai (rf (0 : Int)) (ai hs0 (ai (hf0 c2) (ai (rf ([] : List (Nat × Code))) (fun (tk'1 ep'2 : Nat) (ys'1 : Array Value) (τ'1 ee'1 : Nat) (v'1 : Value) (io'1 : Obj) (x3 : Found ys'1 l c2 0) (x4 : SzLe ys'1 100) (n'7 gz'7 : Nat) => ai (r7 [n'6,n'6,n'6,n'6,n'6 + 1]) (ai (rf (n'6 + 247)) (ai (rf (n'7 + 247)) (ai (hs1 ys'1 x4) (fun (r3 : Nat) (z1 : Array Value) (x5 : SliceOf ys'1 (some (-1)) none z1) => fun (n'8 gz'8 : Nat) => ai (r7 [A]) (ai (rf (A + 247)) (ai (hz1 (Value.ref (r1 + 247))) (fun (ep'3 n'9 gz'9 : Nat) => ai (r7 [n'9 + 1,I,I,I,I,I,I]) (hq (tk'1 + 2) ep'3 ee (tk' + 2) r1 r3 ys' z ys'1 z1 ({ cls := Value.type "str_ascii_iterator", data := Data.fields #[Value.none, Value.int 2 0] }) ({ cps := #[c2] }) x x2 x3 x5))))))))))))))))))))))))))))))))))))))))))))))))))))
    | succ m =>
      exact .go1 (subC hm sub0) (cC (hK c1) <| cC (ctKNew_ok w V (m + 1)) <| cC (ctKIter_ok w V (m + 1)) <| cC (ctN_ok (ctSlc_ok w V)) <| cC (ctApp_ok w V) <| Mine.c1 (hK c2)) [3,0,3,0,3,3,3,3,5,5,0,0,6,0,0,0,2,1,0,8,8,0,8,0,8,8,8,0,8,2,2,1,6,9,2,0,5,9,7,8,3,5,11,11,11,0,0,10,10,10,0,10,2,3,2,8,10,0,0,4,2,4,1,2,0,3,0,3,0,3,3,3,3,5,5,0,0,6,0,0,0,2,1,0,13,13,0,13,0,13,13,13,0,13,2,2,1,11,14,2,5,5,14,12,13,3,5,16,16,16,0,0,15,15,15,0,15,2,3,2,13,15,0,0,4,2,4,1,2,0,3,0,3,0,3,3,3,3,19] [] [] 2 (by kernel_rfl) (by kernel_rfl) (ai (r7 [cr,cm,cm,I,I,I,I,I,I]) (ai (rf (rkC (m + 1) u)) (ai hm1 (fun (r n' gz' : Nat) => ai (r7 [r,r,r,r,r,r,r]) (ai (rf (kiC (m + 1) ((r, tk + 1, u, tk + 2)))) (ai hm1 (fun (n1 n'1 gz'1 : Nat) => ai (r7 [n1]) (ai (ai (rf (n1 + 247)) (ai (rf true) (rf true))) (ai (rf (kxC w.params [] lf c1 ⟨n'1 + 1, n1, n'1, cm, cl, 0, Int.ofNat (m + 1), qu, cd, fr, tk, #[], 0, 0, Value.none, 0⟩)) (ai hm (ai hw (ai hl3 (ai hl2 (ai (rf (0 : Int)) (ai (rf (Int.ofNat (m + 1) : Int)) (ai hs0 (ai (hf0 c1) (ai (rf ([] : List (Nat × Code))) (fun (tk' : Nat) (ep' : Nat) (ys' : Array Value) (τ' : Nat) (ee' : Nat) (v' : Value) (io' : Obj) (x : Found ys' l c1 (0 + (m + 1))) => fun (x1 : SzLe ys' 100) (n'2 gz'2 : Nat) => ai (r7 [n'1,n'1,n'1,n'1,n'1 + 1,n'1 + 1,n'1 + 1]) (ai (rf (n'1 + 247)) (ai (rf (n'2 + 247)) (ai (hs1 ys' x1) (fun (r1 : Nat) (z : Array Value) (x2 : SliceOf ys' (some (-1)) none z) => fun (n'3 gz'3 : Nat) => ai (r7 [A]) (ai (rf (A + 247)) (ai hz0 (fun (ep'1 n'4 gz'4 : Nat) => ai (r7 [cr,cm,cm,I,I,I,I,I,I]) (ai (rf (rkC (m + 1) u)) (ai hm1 (fun (r2 n'5 gz'5 : Nat) => ai (r7 [r2,r2,r2,r2,r2,r2,r2]) (ai (rf (kiC (m + 1) ((r2, tk' + 3, u, tk' + 4)))) (ai hm1 (fun (n2 n'6 gz'6 : Nat) => ai (r7 [n2]) (ai (ai (rf (n2 + 247)) (ai (rf true) (rf true))) (ai (rf (kxC w.params [] lf c2 ⟨n'6 + 1, n2, n'6, cm, cl, 0, Int.ofNat (m + 1), qu, cd, fr, tk' + 2, #[], 0, 0, Value.none, 0⟩)) (ai (hm2 ((r1 + 247, { cls := Value.type "list", data := Data.seq z }))) (ai hw (ai hl3 (ai hl2 (ai (rf (0 : Int)) (ai (rf (Int.ofNat (m + 1) : Int)) (ai hs0 (ai (hf0 c2) (ai (rf ([] : List (Nat × Code))) (fun (tk'1 : Nat) (ep'2 : Nat) (ys'1 : Array Value) (τ'1 : Nat) (ee'1 : Nat) (v'1 : Value) (io'1 : Obj) (x3 : Found ys'1 l c2 (0 + (m + 1))) => fun (x4 : SzLe ys'1 100) (n'7 gz'7 : Nat) => ai (r7 [n'6,n'6,n'6,n'6,n'6 + 1,n'6 + 1,n'6 + 1]) (ai (rf (n'6 + 247)) (ai (rf (n'7 + 247)) (ai (hs1 ys'1 x4) (fun (r3 : Nat) (z1 : Array Value) (x5 : SliceOf ys'1 (some (-1)) none z1) => fun (n'8 gz'8 : Nat) => ai (r7 [A]) (ai (rf (A + 247)) (ai (hz1 (Value.ref (r1 + 247))) (fun (ep'3 n'9 gz'9 : Nat) => ai (r7 [n'9 + 1,I,I,I,I,I,I]) (hq (tk'1 + 2) ep'3 ee (tk' + 2) r1 r3 ys' z ys'1 z1 ({ cls := Value.type "str_ascii_iterator", data := Data.fields #[Value.none, Value.int 2 0] }) ({ cps := #[c2] }) x x2 x3 x5))))))))))))))))))))))))))))))))))))))))))))))))))))
end
end Mine

namespace Mine
open PySem PySem.W PySem.W.X
noncomputable section
noncomputable def SrcCuts (xs : Array Value) (k : Nat) (rs : List (Option Nat)) (q : List (Nat × Obj)) : Prop := CutsOf (xs.toList.drop k) rs q
noncomputable def AccSel (ys : Array Value) (rs : List (Option Nat)) (q : List (Nat × Obj)) : Prop := NumsOf ys ((rs.filterMap id).map Int.ofNat)
theorem cuts_cons {vs : List Value} {r : Option Nat} {rs : List (Option Nat)} {q : List (Nat × Obj)} (h : CutsOf vs (r :: rs) q) : ∃ a vs' z, vs = .ref (a + 247) :: vs' ∧ (a + 247, lstO z 0) ∈ q ∧ OneOf z r ∧ CutsOf vs' rs q := by
  cases vs with
  | nil => exact h.elim
  | cons v vs =>
    cases v with
    | ref a =>
      obtain ⟨⟨z, h1, h2⟩, h3, h4⟩ := h
      obtain ⟨a, rfl⟩ := Nat.exists_eq_add_of_le' h3
      exact ⟨a, vs, z, rfl, h1, h2, h4⟩
    | _ => exact h.elim
theorem cuts_nil {vs : List Value} {q : List (Nat × Obj)} (h : CutsOf vs [] q) : vs = [] := by
  cases vs with
  | nil => rfl
  | cons v vs => cases v <;> exact h.elim
noncomputable def cXof (e : Expr) (I A : Nat) (env : Env) (c : Code) : Sem PySem.Fin := match e with
  | .ListComp elt [⟨target, iter, [t], _⟩] _ _ => compX elt target iter t (.ref I) (.ref A) env c
  | _ => .unsupported ""
theorem eSel_lc : ∃ elt target iter t scope pos, eSel = .ListComp elt [⟨target, iter, [t], 0⟩] scope pos := ⟨_, _, _, _, _, _, rfl⟩
theorem srcCuts_cons {xs : Array Value} {k : Nat} {r : Option Nat} {rs : List (Option Nat)} {q : List (Nat × Obj)} (h : SrcCuts xs k (r :: rs) q) : ∃ a z, AtN xs k (.ref (a + 247)) ∧ (a + 247, lstO z 0) ∈ q ∧ OneOf z r ∧ SrcCuts xs (k + 1) rs q := by
  unfold SrcCuts at h
  generalize hvs : xs.toList.drop k = vs at h
  obtain ⟨a, vs', z, rfl, hm, ho, hr⟩ := cuts_cons h
  obtain ⟨hat, hr2⟩ := rest_cons (show RestOf xs k _ from hvs)
  exact ⟨a, z, hat, hm, ho, by unfold SrcCuts; rw [show xs.toList.drop (k + 1) = vs' from hr2]; exact hr⟩
theorem srcCuts_nil {xs : Array Value} {k : Nat} {q : List (Nat × Obj)} (h : SrcCuts xs k [] q) : xs.size ≤ k := rest_nil (cuts_nil h)
theorem loopS (w : World) (V : Vol) : ∀ (rem : List (Option Nat)) (F : List String), F = [] ∨ F = ["one"] → ∀ done, CtOk w V (ctL w.params 40 eSel ["one"] F SrcCuts AccSel done rem) := ctL_ok w V rfl ⟨_, _, _, _, _, _, _, rfl⟩ (fun _ _ _ h => srcCuts_nil h) fun F hF done y rem hC => mkC_okX 40 rfl fun x q gs tk post h => by
  obtain ⟨hsrc0, hacc, hfw0, rfl, hq⟩ := h
  obtain ⟨a0, z0, hat, hm, ho, hsrc⟩ := srcCuts_cons hsrc0
  have hn := NumsOf.size hacc
  have hys : x.ys.size ≤ 1000000 := by
    have h1 := List.length_filterMap_le id done
    rw [List.length_map] at hn
    have h2 : done.length + (rem.length + 1) ≤ 200 := hfw0
    omega
  have hfw := few_next hfw0
  replace hq : ∀ (tk' ep' : Nat) (ys' : Array Value) (τ' ee' : Nat) (v' : Value) (io' : Obj) (nq : List (Nat × Obj)), AccSel ys' (done ++ [y] ++ rem) (nq ++ q) → post (.ok .next) tk' [dcO [eZ w.params "one" τ' v'] ee', io', lstO ys' ep', lstO x.xs x.epx] [] [] := fun tk' ep' ys' τ' ee' v' io' nq h1 => by
    have z := hq tk' ep' ys' τ' 0 ee' v' .none io' [] (by rw [← drop_app]; exact h1) (Nat.zero_le _)
    rw [frX_cons] at z
    exact z
  obtain ⟨elt, target, iter, t, scope, pos, he⟩ := eSel_lc
  refine ⟨elt, target, iter, t, scope, pos, .ref (x.I + 247), .ref (x.A + 247), lcEnv eSel (x.lo + 247) [] x.qu x.cd (some x.fr), by rw [← he]; rfl, fun n gz => ?_⟩
  have hT : ∀ c, compX elt target iter t (.ref (x.I + 247)) (.ref (x.A + 247)) (lcEnv eSel (x.lo + 247) [] x.qu x.cd (some x.fr)) c = cXof eSel (x.I + 247) (x.A + 247) (lcEnv eSel (x.lo + 247) [] x.qu x.cd (some x.fr)) c := fun c => by
    unfold cXof
    rw [he]
  rw [hT]
  obtain ⟨lo, I, A, p, k, qu, cd, fr, ys, ep, xs, epx, τ, v, τ2, v2, ee⟩ := x
  cases y with
  | none =>
    obtain rfl : z0 = #[] := ho
    have hfu : Full #[] false := by unfold Full; decide
    have ha1 : AccSel ys (done ++ [none]) q := by
      unfold AccSel at hacc ⊢
      simpa using hacc
    rcases hF with rfl | rfl
    · exact .go1 (subC hm sub0) (cC (ctLNext_ok w V (.ref (a0 + 247))) <| cC (ctQ_ok (a := a0) (xs := #[]) (ep := 0) (ctNeE_ok w V false)) <| c1 hC) [3,0,3,2,0,2,1,3,2,2,2,1,0,6,1,0,0,1,0,2,1,1,4,2,2,4,0,1,2,3] [] [] 0 (by kernel_rfl) (by kernel_rfl) (ai (r7 [I,I]) (ai (rf (lnC ((I, p, k, { cls := Value.type "list", data := Data.seq xs epx })))) (ai (rf true) (ai hat (fun (n' gz' : Nat) => ai (r7 [a0,a0,n',a0,lo,lo,lo]) (ai hm (ai (rf (neC ((a0, #[], 0, n', 0)))) (ai hfu (ai (rf ({ cls := Value.type "list", data := Data.seq #[] } : Obj)) (fun (n'1 gz'1 : Nat) => ai (r7 []) (ai (rf (lxC w.params (((Expr.Name (Str.ofString "one") { line := 207, col := 15, endLine := 207, endCol := 18 }).Subscript (Expr.Constant (Const.int 0) 0 { line := 207, col := 19, endLine := 207, endCol := 20 }) { line := 207, col := 15, endLine := 207, endCol := 21 }).ListComp [{ target := Expr.Name (Str.ofString "one") { line := 207, col := 26, endLine := 207, endCol := 29 }, iter := Expr.Name (Str.ofString "cuts") { line := 207, col := 33, endLine := 207, endCol := 37 }, ifs := [(Expr.Name (Str.ofString "one") { line := 207, col := 41, endLine := 207, endCol := 44 }).Compare [CmpOp.NotEq] [Expr.List [] { line := 207, col := 48, endLine := 207, endCol := 50 }] { line := 207, col := 41, endLine := 207, endCol := 50 }], is_async := 0 }] { kind := ScopeKind.function, names := [(Str.ofString ".0", NameKind.local), (Str.ofString "one", NameKind.local)], isGenerator := false, isCoroutine := false } { line := 207, col := 14, endLine := 207, endCol := 51 }) ["one"] ⟨lo, I, A, p, k + 1, qu, cd, fr, ys, ep, xs, epx, tk, Value.ref (a0 + 247), 0, Value.none, ee + 1⟩)) (ai hsrc (ai ha1 (ai hfw (ai (rf ([] : List (Nat × Code))) (fun (tk' ep' : Nat) (ys' : Array Value) (τ' σ' ee' : Nat) (v' u' : Value) (io' : Obj) (nq : List (Nat × Obj)) (x : AccSel ys' (done ++ [none] ++ rem) (nq ++ q)) (x1 : FewQ nq rem) (n'2 gz'2 : Nat) => hq tk' ep' ys' τ' ee' v' io' nq x))))))))))))))))
    · exact .go1 (subC hm sub0) (cC (ctLNext_ok w V (.ref (a0 + 247))) <| cC (ctQ_ok (a := a0) (xs := #[]) (ep := 0) (ctNeE_ok w V false)) <| c1 hC) [3,0,3,2,0,2,1,3,2,2,2,1,0,6,1,0,0,1,0,2,1,1,4,2,2,4,0,1,2,3] [] [] 0 (by kernel_rfl) (by kernel_rfl) (ai (r7 [I,I]) (ai (rf (lnC ((I, p, k, { cls := Value.type "list", data := Data.seq xs epx })))) (ai (rf true) (ai hat (fun (n' gz' : Nat) => ai (r7 [a0,a0,n',a0,lo,lo,lo]) (ai hm (ai (rf (neC ((a0, #[], 0, n', 0)))) (ai hfu (ai (rf ({ cls := Value.type "list", data := Data.seq #[] } : Obj)) (fun (n'1 gz'1 : Nat) => ai (r7 []) (ai (rf (lxC w.params (((Expr.Name (Str.ofString "one") { line := 207, col := 15, endLine := 207, endCol := 18 }).Subscript (Expr.Constant (Const.int 0) 0 { line := 207, col := 19, endLine := 207, endCol := 20 }) { line := 207, col := 15, endLine := 207, endCol := 21 }).ListComp [{ target := Expr.Name (Str.ofString "one") { line := 207, col := 26, endLine := 207, endCol := 29 }, iter := Expr.Name (Str.ofString "cuts") { line := 207, col := 33, endLine := 207, endCol := 37 }, ifs := [(Expr.Name (Str.ofString "one") { line := 207, col := 41, endLine := 207, endCol := 44 }).Compare [CmpOp.NotEq] [Expr.List [] { line := 207, col := 48, endLine := 207, endCol := 50 }] { line := 207, col := 41, endLine := 207, endCol := 50 }], is_async := 0 }] { kind := ScopeKind.function, names := [(Str.ofString ".0", NameKind.local), (Str.ofString "one", NameKind.local)], isGenerator := false, isCoroutine := false } { line := 207, col := 14, endLine := 207, endCol := 51 }) ["one"] ⟨lo, I, A, p, k + 1, qu, cd, fr, ys, ep, xs, epx, τ, Value.ref (a0 + 247), 0, Value.none, ee⟩)) (ai hsrc (ai ha1 (ai hfw (ai (rf ([] : List (Nat × Code))) (fun (tk' ep' : Nat) (ys' : Array Value) (τ' σ' ee' : Nat) (v' u' : Value) (io' : Obj) (nq : List (Nat × Obj)) (x : AccSel ys' (done ++ [none] ++ rem) (nq ++ q)) (x1 : FewQ nq rem) (n'2 gz'2 : Nat) => hq tk' ep' ys' τ' ee' v' io' nq x))))))))))))))))
  | some j =>
    obtain ⟨t0, rfl⟩ := ho
    have hfu : Full #[.int (Int.ofNat j) t0] true := by unfold Full; simp
    have hat2 : AtI #[.int (Int.ofNat j) t0] 0 (.int (Int.ofNat j) t0) := rfl
    have hi0 : (0 : Int) ≤ 0 := Int.le_refl 0
    have hi1 : (0 : Int) < 1000000 := by decide
    have ha1 : AccSel (ys.push (.int (Int.ofNat j) t0)) (done ++ [some j]) q := by
      unfold AccSel
      have := NumsOf.push hacc (Int.ofNat j) t0
      simpa using this
    rcases hF with rfl | rfl
    · exact .go1 (subC hm sub0) (cC (ctLNext_ok w V (.ref (a0 + 247))) <| cC (ctQ_ok (a := a0) (xs := #[.int (Int.ofNat j) t0]) (ep := 0) (ctNeE_ok w V true)) <| cC (ctQ_ok (a := a0) (xs := #[.int (Int.ofNat j) t0]) (ep := 0) (ctGet_ok w V (.int (Int.ofNat j) t0))) <| cC (ctApp_ok w V) <| c1 hC) [3,0,3,2,0,2,1,3,2,2,2,1,0,6,1,0,0,1,0,2,1,1,4,2,1,0,1,0,1,0,0,1,0,2,2,0,0,4,2,3,1,2,2,4,4,0,1,2,3] [] [] 0 (by kernel_rfl) (by kernel_rfl) (ai (r7 [I,I]) (ai (rf (lnC ((I, p, k, { cls := Value.type "list", data := Data.seq xs epx })))) (ai (rf true) (ai hat (fun (n' gz' : Nat) => ai (r7 [a0,a0,n',a0,lo,lo,lo]) (ai hm (ai (rf (neC ((a0, #[Value.int (Int.ofNat j) t0], 0, n', 0)))) (ai hfu (ai (rf ({ cls := Value.type "list", data := Data.seq #[Value.int (Int.ofNat j) t0] } : Obj)) (fun (n'1 gz'1 : Nat) => ai (r7 [a0,a0,a0,a0,lo]) (ai hm (ai (rf (a0 + 247)) (ai hi0 (ai hi1 (ai hat2 (ai (rf ({ cls := Value.type "list", data := Data.seq #[Value.int (Int.ofNat j) t0] } : Obj)) (fun (n'2 gz'2 : Nat) => ai (r7 [A]) (ai (rf (A + 247)) (ai hys (fun (ep' n'3 gz'3 : Nat) => ai (r7 []) (ai (rf (lxC w.params (((Expr.Name (Str.ofString "one") { line := 207, col := 15, endLine := 207, endCol := 18 }).Subscript (Expr.Constant (Const.int 0) 0 { line := 207, col := 19, endLine := 207, endCol := 20 }) { line := 207, col := 15, endLine := 207, endCol := 21 }).ListComp [{ target := Expr.Name (Str.ofString "one") { line := 207, col := 26, endLine := 207, endCol := 29 }, iter := Expr.Name (Str.ofString "cuts") { line := 207, col := 33, endLine := 207, endCol := 37 }, ifs := [(Expr.Name (Str.ofString "one") { line := 207, col := 41, endLine := 207, endCol := 44 }).Compare [CmpOp.NotEq] [Expr.List [] { line := 207, col := 48, endLine := 207, endCol := 50 }] { line := 207, col := 41, endLine := 207, endCol := 50 }], is_async := 0 }] { kind := ScopeKind.function, names := [(Str.ofString ".0", NameKind.local), (Str.ofString "one", NameKind.local)], isGenerator := false, isCoroutine := false } { line := 207, col := 14, endLine := 207, endCol := 51 }) ["one"] ⟨lo, I, A, p, k + 1, qu, cd, fr, ys.push (Value.int (Int.ofNat j) t0), ep', xs, epx, tk, Value.ref (a0 + 247), 0, Value.none, ee + 1⟩)) (ai hsrc (ai ha1 (ai hfw (ai (rf ([] : List (Nat × Code))) (fun (tk' ep'1 : Nat) (ys' : Array Value) (τ' σ' ee' : Nat) (v' u' : Value) (io' : Obj) (nq : List (Nat × Obj)) (x : AccSel ys' (done ++ [some j] ++ rem) (nq ++ q)) (x1 : FewQ nq rem) (n'4 gz'4 : Nat) => hq tk' ep'1 ys' τ' ee' v' io' nq x))))))))))))))))))))))))))
    · exact .go1 (subC hm sub0) (cC (ctLNext_ok w V (.ref (a0 + 247))) <| cC (ctQ_ok (a := a0) (xs := #[.int (Int.ofNat j) t0]) (ep := 0) (ctNeE_ok w V true)) <| cC (ctQ_ok (a := a0) (xs := #[.int (Int.ofNat j) t0]) (ep := 0) (ctGet_ok w V (.int (Int.ofNat j) t0))) <| cC (ctApp_ok w V) <| c1 hC) [3,0,3,2,0,2,1,3,2,2,2,1,0,6,1,0,0,1,0,2,1,1,4,2,1,0,1,0,1,0,0,1,0,2,2,0,0,4,2,3,1,2,2,4,4,0,1,2,3] [] [] 0 (by kernel_rfl) (by kernel_rfl) (ai (r7 [I,I]) (ai (rf (lnC ((I, p, k, { cls := Value.type "list", data := Data.seq xs epx })))) (ai (rf true) (ai hat (fun (n' gz' : Nat) => ai (r7 [a0,a0,n',a0,lo,lo,lo]) (ai hm (ai (rf (neC ((a0, #[Value.int (Int.ofNat j) t0], 0, n', 0)))) (ai hfu (ai (rf ({ cls := Value.type "list", data := Data.seq #[Value.int (Int.ofNat j) t0] } : Obj)) (fun (n'1 gz'1 : Nat) => ai (r7 [a0,a0,a0,a0,lo]) (ai hm (ai (rf (a0 + 247)) (ai hi0 (ai hi1 (ai hat2 (ai (rf ({ cls := Value.type "list", data := Data.seq #[Value.int (Int.ofNat j) t0] } : Obj)) (fun (n'2 gz'2 : Nat) => ai (r7 [A]) (ai (rf (A + 247)) (ai hys (fun (ep' n'3 gz'3 : Nat) => ai (r7 []) (ai (rf (lxC w.params (((Expr.Name (Str.ofString "one") { line := 207, col := 15, endLine := 207, endCol := 18 }).Subscript (Expr.Constant (Const.int 0) 0 { line := 207, col := 19, endLine := 207, endCol := 20 }) { line := 207, col := 15, endLine := 207, endCol := 21 }).ListComp [{ target := Expr.Name (Str.ofString "one") { line := 207, col := 26, endLine := 207, endCol := 29 }, iter := Expr.Name (Str.ofString "cuts") { line := 207, col := 33, endLine := 207, endCol := 37 }, ifs := [(Expr.Name (Str.ofString "one") { line := 207, col := 41, endLine := 207, endCol := 44 }).Compare [CmpOp.NotEq] [Expr.List [] { line := 207, col := 48, endLine := 207, endCol := 50 }] { line := 207, col := 41, endLine := 207, endCol := 50 }], is_async := 0 }] { kind := ScopeKind.function, names := [(Str.ofString ".0", NameKind.local), (Str.ofString "one", NameKind.local)], isGenerator := false, isCoroutine := false } { line := 207, col := 14, endLine := 207, endCol := 51 }) ["one"] ⟨lo, I, A, p, k + 1, qu, cd, fr, ys.push (Value.int (Int.ofNat j) t0), ep', xs, epx, τ, Value.ref (a0 + 247), 0, Value.none, ee⟩)) (ai hsrc (ai ha1 (ai hfw (ai (rf ([] : List (Nat × Code))) (fun (tk' ep'1 : Nat) (ys' : Array Value) (τ' σ' ee' : Nat) (v' u' : Value) (io' : Obj) (nq : List (Nat × Obj)) (x : AccSel ys' (done ++ [some j] ++ rem) (nq ++ q)) (x1 : FewQ nq rem) (n'4 gz'4 : Nat) => hq tk' ep'1 ys' τ' ee' v' io' nq x))))))))))))))))))))))))))
end
end Mine

namespace Mine
open PySem PySem.W PySem.W.X
noncomputable section
theorem cutW_eq {l : List Str} {m : Nat} : ∀ M : List Nat, cutW M l m = (((M.map fun c => findBrk (wst l c) m).filterMap id).head?).getD m
  | [] => rfl
  | c :: M => by
    unfold cutW
    cases h : findBrk (wst l c) m with
    | some j => simp [h]
    | none => simp only [List.map_cons, h, List.filterMap_cons, id]; exact cutW_eq M
noncomputable def AtIn (xs : Array Value) (k : Int) (i : Int) : Prop := ∃ u, AtI xs k (.int i u)
noncomputable def ctGetI (i : Int) : Ct := ⟨4, fun c L q gs tk post => sRV nGet c L fun a vk xs F => kI vk fun k t => 0 ≤ k ∧ k < 1000000 ∧ AtIn xs k i ∧ ∀ u : Nat, post (.ok (.ret (.int i u))) tk (L.map Prod.snd) [] []⟩
theorem ctGetI_ok (w : World) (V : Vol) (i : Int) : CtOk w V (ctGetI i) := by
  intro c L q gs tk post h
  dsimp only [ctGetI] at h
  obtain ⟨a, vk, kk, xs, rfl, rfl, h⟩ := sRV_e "list.__getitem__" (by decide +kernel) h
  obtain ⟨k, t, rfl, h0, hk, ⟨u, hx⟩, hp⟩ := kI_e h
  intro A Q h g d os hr H hQ
  have ho := H.has _ (List.mem_cons_self ..)
  refine codeAny_builtin PySem.F.entry_list_getitem ?_
  show wpAny _ _ (Builtin.List.listSubscript? (.int k t) >>= _) _ _ _
  refine wpAny_bind (wpAny_listSubscript_int (fitsIndex_of h0 (by omega)) ?_)
  obtain ⟨j, rfl⟩ := Int.eq_ofNat_of_zero_le h0
  have hx' : xs[j]? = some (.int i u) := hx
  show wpAny _ _ ((seqItemAt a j >>= fun r => pure (r.map (j, ·))) >>= _) _ _ _
  refine wpAny_bind (wpAny_bind (wpAny_seqItemAt ho rfl (wpAny_pure ?_)))
  rw [hx']
  first
    | exact wpAny_bind (wpAny_pure (wpAny_pure (hQ _ _ _ _ _ _ _ (hp u) H.same)))
    | exact wpAny_pure (hQ _ _ _ _ _ _ _ (hp u) H.same)
theorem cut_head {M : List Nat} {l : List Str} {m : Nat} {ys z : Array Value} {u : Nat} (h : NumsOf ys ((([] : List Int) ++ ((M.map fun c => findBrk (wst l c) m).filterMap id).map Int.ofNat))) (hz : SliceOf ys none (some 1) z) :
    ∃ t, AtI (z ++ #[.int (Int.ofNat m) u]) 0 (.int (Int.ofNat (cutW M l m)) t) ∧ z.size ≤ 1 := by
  rw [cutW_eq]
  generalize (M.map fun c => findBrk (wst l c) m).filterMap id = G at h
  unfold SliceOf at hz
  have hz' : z = (ys.toList.take 1).toArray := by
    rw [hz, slicePick_plain]
    simp only [Option.elim, List.drop_zero, Nat.sub_zero]
    have e : clipAt ys.size 1 = min 1 ys.size := by unfold clipAt; simp; omega
    rw [e]
    congr 1
    rw [List.take_eq_take_iff]
    simp
  obtain ⟨ts, h1, rfl⟩ := h
  cases G with
  | nil =>
    have : ts = [] := by simpa using h1
    subst this
    refine ⟨u, ?_, ?_⟩
    · rw [hz']; rfl
    · rw [hz']; exact Nat.zero_le _
  | cons j G =>
    cases ts with
    | nil => simp at h1
    | cons t ts =>
      refine ⟨t, ?_, ?_⟩
      · rw [hz']; rfl
      · rw [hz']; exact Nat.le_refl _
theorem textsOf_drop {ws : Array Value} {l : List Str} (h : TextsOf ws l) (a b : Nat) : TextsOf ((ws.toList.drop a).take b).toArray ((l.drop a).take b) := by
  obtain ⟨ts, h1, rfl⟩ := h
  refine ⟨(ts.drop a).take b, by simp [h1], ?_⟩
  congr 1
  rw [List.toList_toArray, List.drop_zipWith, List.take_zipWith]
theorem words_cut {ws : Array Value} {l : List Str} {z : Array Value} {lo hi : Option Int} (a b : Nat) (h : Words ws l) (hz : SliceOf ws lo hi z) (ha : lo.elim 0 (clipAt ws.size) = a) (hb : hi.elim ws.size (clipAt ws.size) - lo.elim 0 (clipAt ws.size) = b) : Words z ((l.drop a).take b) := by
  unfold SliceOf at hz
  rw [slicePick_plain, ha] at hz
  rw [ha] at hb
  rw [hb] at hz
  rw [hz]
  exact ⟨textsOf_drop h.1 a b, fun x hx => h.2 x (List.mem_of_mem_drop (List.mem_of_mem_take hx))⟩
theorem clip_nat {n c : Nat} (h : c ≤ n) : clipAt n (Int.ofNat c) = c := by
  unfold clipAt
  have : ¬ (Int.ofNat c < 0) := by show ¬ ((c : Int) < 0); omega
  simp only [this, if_false]
  show (max 0 (min (c : Int) (n : Int))).toNat = c
  omega
theorem words_take {ws z : Array Value} {l : List Str} {c : Nat} (h : Words ws l) (hc : c ≤ l.length) (hz : SliceOf ws none (some (Int.ofNat c)) z) : Words z (l.take c) := by
  have := words_cut 0 c h hz rfl (by simp only [Option.elim]; rw [words_size h, clip_nat hc, Nat.sub_zero])
  simpa using this
theorem words_drop {ws z : Array Value} {l : List Str} {c : Nat} (h : Words ws l) (hc : c ≤ l.length) (hz : SliceOf ws (some (Int.ofNat c)) none z) : Words z (l.drop c) := by
  have := words_cut c (l.length - c) h hz (by simp only [Option.elim]; rw [words_size h, clip_nat hc]) (by simp only [Option.elim]; rw [words_size h, clip_nat hc])
  rwa [List.take_of_length_le (by rw [List.length_drop]; exact Nat.le_refl _)] at this
theorem ascii_of {M : List Nat} (h : ∀ c ∈ M, c < 128 ∧ Txt.isspace ⟨#[c]⟩ = false) : Ascii ⟨M.toArray⟩ := by
  unfold Ascii
  rw [List.all_toArray, List.all_eq_true]
  exact fun c hc => decide_eq_true (h c hc).1
structure Wx where
  lo : Nat
  cr : Nat
  cl : Nat
  rw : Nat
  qu : Str
  cd : Value
  t0 : Nat
  v0 : Value
  t1 : Nat
  v1 : Value
  t2 : Nat
  t3 : Nat
  t4 : Nat
  t5 : Nat
  t6 : Nat
  t7 : Nat
  v7 : Value
  t8 : Nat
  v8 : Value
  ee : Nat
  u : Nat
  lf : Nat
  xs : Array Value
  ep : Nat
noncomputable def Wx.upd (x : Wx) (t7 : Nat) (v7 : Value) (t8 : Nat) (v8 : Value) (ee : Nat) : Wx := { x with t7 := t7, v7 := v7, t8 := t8, v8 := v8, ee := ee }
noncomputable def rwO (P : Params) (b : Bool) (mx : Nat) (M : List Nat) (x : Wx) : Obj := match b with
  | false => { cls := .type "frame", data := .dict #[e P "words" x.t0 x.v0, e P "head" x.t1 x.v1, e P "most" x.t2 (.int (Int.ofNat mx) x.t3), e P "marks" x.t4 (.str ⟨M.toArray⟩ x.t5), eZ P "rows" x.t6 (.ref (x.rw + 247))] x.ee }
  | true => { cls := .type "frame", data := .dict #[e P "words" x.t0 x.v0, e P "head" x.t1 x.v1, e P "most" x.t2 (.int (Int.ofNat mx) x.t3), e P "marks" x.t4 (.str ⟨M.toArray⟩ x.t5), eZ P "rows" x.t6 (.ref (x.rw + 247)), eZ P "cuts" x.t7 x.v7, eZ P "cut" x.t8 x.v8] x.ee }
noncomputable def rwEnv (lo cl cr : Nat) (qu : Str) (cd : Value) : Env := ⟨defScope (stm 64), lo, 3, [(S "left", cl), (S "room", cr)], qu, some 240, cd, some lo, 0⟩
noncomputable def wxS (c : Code) (L : List (Nat × Obj)) : Wx := ⟨lA L 0, lA L 1, lA L 2, lA L 3, (cEnv c).qual, (cEnv c).code, eT (lO L 0) 0, eV (lO L 0) 0, eT (lO L 0) 1, eV (lO L 0) 1, eT (lO L 0) 2, vT (eV (lO L 0) 2), eT (lO L 0) 3, vT (eV (lO L 0) 3), eT (lO L 0) 4, eT (lO L 0) 5, eV (lO L 0) 5, eT (lO L 0) 6, eV (lO L 0) 6, oEp (lO L 0), vT (cellV (lO L 1)), vA (cellV (lO L 2)), oSeq (lO L 3), oEp (lO L 3)⟩
noncomputable def wxC (P : Params) (b : Bool) (mx m : Nat) (M : List Nat) (x : Wx) : Cl := ⟨whCode rwWh (rwEnv (x.lo + 247) (x.cl + 247) (x.cr + 247) x.qu x.cd), [(x.lo + 247, rwO P b mx M x), (x.cr + 247, clO (.int (Int.ofNat m) x.u)), (x.cl + 247, clO (.ref (x.lf + 247))), (x.rw + 247, lstO x.xs x.ep)]⟩
noncomputable def WhIn (a : Nat) (l : List Str) (q : List (Nat × Obj)) : Prop := ∃ ws wep, (a, lstO ws wep) ∈ q ∧ Words ws l
noncomputable def WhEnd (xs : Array Value) (a : Nat) (R : List (List Str)) (f : Nat) (M : List Nat) (mx m : Nat) (l : List Str) (q : List (Nat × Obj)) : Prop := ∃ R' last, rowsGo f M mx m l = R' ++ [last] ∧ RowsOf xs.toList (R ++ R') q ∧ WhIn a last q
noncomputable def ctWh (P : Params) (b : Bool) (f : Nat) (M : List Nat) (mx m : Nat) (l : List Str) (R : List (List Str)) : Ct := mkC 100 (fun c L _ => wxS c L) (wxC P b mx m M) fun x q gs tk post =>
  WhIn (x.lf + 247) l q ∧ RowsOf x.xs.toList R q ∧ gs = [] ∧
    ∀ (tk' t7 t8 ee m' u' lf' ep' : Nat) (v7 v8 : Value) (xs' : Array Value) (nq : List (Nat × Obj)), WhEnd xs' (lf' + 247) R f M mx m l (nq ++ q) → nq.length ≤ 12 * f →
      post (.ok .next) tk' [rwO P true mx M (x.upd t7 v7 t8 v8 ee), clO (.int (Int.ofNat m') u'), clO (.ref (lf' + 247)), lstO xs' ep'] [] nq
theorem whE (w : World) (V : Vol) {x : Wx} {q : List (Nat × Obj)} {tk n gz mx m k wep : Nat} {M : List Nat} {ws : Array Value} {post : Post} (hm : (x.lf + 247, lstO ws wep) ∈ q) (hk : SzIs ws k) (hg : IntGt (Int.ofNat k) (Int.ofNat m) false)
    (hq : ∀ (tk' : Nat), post (.ok .next) tk' [rwO w.params true mx M x, clO (.int (Int.ofNat m) x.u), clO (.ref (x.lf + 247)), lstO x.xs x.ep] [] []) :
    Runs w V 100 (wxC w.params true mx m M x).c (wxC w.params true mx m M x).L q [] tk n gz post := by
  obtain ⟨lo, cr, cl, rw, qu, cd, t0, v0, t1, v1, t2, t3, t4, t5, t6, t7, v7, t8, v8, ee, u, lf, xs, ep⟩ := x
  exact .go1 (subC hm sub0) (cC (ctQ_ok (a := lf) (xs := ws) (ep := wep) (ctLLen_ok w V k)) <| c1 (ctGt_ok w V false)) [0,0,4,0,2,0,0,3,0,2,1,0] [] [] 0 (by kernel_rfl) (by kernel_rfl) (ai (r7 [cl]) (ai hm (ai (rf (llC ((lf, ws, wep)))) (ai hk (ai (rf ({ cls := Value.type "list", data := Data.seq ws wep } : Obj)) (fun (n' gz' : Nat) => ai (r7 [cr]) (ai hg (fun (n'1 gz'1 : Nat) => ai (r7 []) (hq (tk + 2))))))))))
theorem whT (w : World) (V : Vol) {x : Wx} {q : List (Nat × Obj)} {tk n gz mx m m2 k wep f cW j : Nat} {M : List Nat} {l l2 : List Str} {R R2 : List (List Str)} {r0 : Option Nat} {rs : List (Option Nat)} {ws : Array Value} {post : Post} {b : Bool} (hC : CtOk w V (ctWh w.params true f M mx m2 l2 R2)) (hCu : CtOk w V (ctCuts x.lf ws wep l m M (r0 :: rs)))
    (hm : (x.lf + 247, lstO ws wep) ∈ q) (hw : Words ws l) (hml : m ≤ l.length) (hl : l.length ≤ 100) (hM : MOk M) (hk : SzIs ws k) (hg : IntGt (Int.ofNat k) (Int.ofNat m) true) (hA : Ascii ⟨M.toArray⟩)
    (hf1 : Few ([] : List (Option Nat)) (r0 :: rs)) (hf2 : ∀ ys q, AccSel ys ([] ++ (r0 :: rs)) q → SzLe ys 1000) (hf3 : ∀ ys q z, AccSel ys ([] ++ (r0 :: rs)) q → SliceOf ys none (some 1) z → SzLe z 1000)
    (hf4 : ∀ ys q z z2, AccSel ys ([] ++ (r0 :: rs)) q → SliceOf ys none (some 1) z → CatOf z #[.int (Int.ofNat m) x.u] z2 → AtIn z2 0 (Int.ofNat cW)) (hd : Div3 (Int.ofNat mx) 3 m2) (hs : SzLe ws 1000) (hx : x.xs.size ≤ 1000000)
    (hr1 : ∀ (r : Nat) (z : Array Value) (q' : List (Nat × Obj)), SliceOf ws (some (Int.ofNat cW)) none z → WhIn (r + 247) l2 ([(r + 247, lstO z 0)] ++ q'))
    (hr2 : ∀ (r : Nat) (z : Array Value) (p : Nat × Obj) (nq1 nq : List (Nat × Obj)), SliceOf ws none (some (Int.ofNat cW)) z → RowsOf (x.xs.push (.ref (r + 247))).toList R2 ([p] ++ ([(r + 247, lstO z 0)] ++ (nq1 ++ (nq ++ q)))))
    (hq : ∀ (tk' t7 t8 ee m' u' lf' ep' : Nat) (v7 v8 : Value) (xs' : Array Value) (nq nq1 nq2 : List (Nat × Obj)) (p1 p2 : Nat × Obj), WhEnd xs' (lf' + 247) R2 f M mx m2 l2 (nq2 ++ ([p1] ++ ([p2] ++ (nq1 ++ (nq ++ q))))) → nq.length ≤ 2 → FewQ nq1 (r0 :: rs) → nq2.length ≤ 12 * f →
      post (.ok .next) tk' [rwO w.params true mx M (x.upd t7 v7 t8 v8 ee), clO (.int (Int.ofNat m') u'), clO (.ref (lf' + 247)), lstO xs' ep'] [] ([] ++ takeL j (nq2 ++ ([p1] ++ ([p2] ++ (nq1 ++ (nq ++ q))))))) :
    Runs w V 100 (wxC w.params b mx m M x).c (wxC w.params b mx m M x).L q [] tk n gz post := by
  have hsc : ∀ ys q, CutsOf ys.toList (r0 :: rs) q → SrcCuts ys 0 (r0 :: rs) q := fun _ _ h => h
  have ha0 : ∀ q, AccSel #[] [] q := fun q => NumsOf.empty
  have hz1 : ∀ v : Value, SzLe #[v] 1000 := fun v => by unfold SzLe; exact Nat.le_of_ble_eq_true rfl
  have hi0 : (0 : Int) ≤ 0 := Int.le_refl 0
  have hi1 : (0 : Int) < 1000000 := by decide
  have hm1 : ∀ A : List (Nat × Obj), (x.lf + 247, lstO ws wep) ∈ A ++ q := fun A => List.mem_append_right _ hm
  have hm2 : ∀ A B : List (Nat × Obj), (x.lf + 247, lstO ws wep) ∈ A ++ (B ++ q) := fun A B => List.mem_append_right _ (List.mem_append_right _ hm)
  have hm3 : ∀ A B C : List (Nat × Obj), (x.lf + 247, lstO ws wep) ∈ A ++ (B ++ (C ++ q)) := fun A B C => List.mem_append_right _ (List.mem_append_right _ (List.mem_append_right _ hm))
  obtain ⟨lo, cr, cl, rw, qu, cd, t0, v0, t1, v1, t2, t3, t4, t5, t6, t7, v7, t8, v8, ee, u, lf, xs, ep⟩ := x
  cases b with
  | false =>
    exact .go1 (subC hm sub0) (cC (ctQ_ok (a := lf) (xs := ws) (ep := wep) (ctLLen_ok w V k)) <| cC (ctGt_ok w V true) <| cC (ctS_ok hCu) <| cC (ctS_ok (loopS w V (r0 :: rs) [] (.inl rfl) [])) <| cC (ctSIter_ok w V) <| cC (ctSlc_ok w V) <| cC (ctLAdd_ok w V) <| cC (ctGetI_ok w V (Int.ofNat cW)) <| cC (ctN_ok (ctQ_ok (a := lf) (xs := ws) (ep := wep) (ctSlc_ok w V))) <| cC (ctApp_ok w V) <| cC (ctFd_ok w V m2) <| c1 hC) [0,0,4,0,2,0,0,3,0,2,1,0,2,0,2,4,0,6,2,2,6,6,4,5,7,1,2,2,2,2,7,7,0,7,0,10,2,3,4,10,8,9,5,12,12,12,11,11,11,0,11,2,5,2,9,11,0,3,14,15,14,0,14,2,6,2,12,13,2,2,2,5,5,5,5,4,2,16,16,16,0,16,2,7,1,14,1,0,1,0,1,0,0,1,0,2,8,1,15,0,5,2,9,1,3,2,0,2,10,0,4,2,16,16,16,0,16,2,7,1,14,1,0,1,0,1,0,0,1,0,2,8,1,16,19,19,19,0,19,0,20,20,0,20,0,20,20,19,20,20,20,0,20,0,20,20,19,20,20,20,0,20,0,20,20,19,20,20,22,3,3,4,4,2,11,4,0,1,2,3] [] [] j (by kernel_rfl) (by kernel_rfl) (ai (r7 [cl]) (ai hm (ai (rf (llC ((lf, ws, wep)))) (ai hk (ai (rf ({ cls := Value.type "list", data := Data.seq ws wep } : Obj)) (fun (n' gz' : Nat) => ai (r7 [cr]) (ai hg (fun (n'1 gz'1 : Nat) => ai (r7 [lo]) (ai (rf (siC (({ cps := M.toArray }, t5)))) (ai hA (fun (n1 n'2 gz'2 : Nat) => ai (r7 [n1]) (ai (ai (rf (n1 + 247)) (ai (rf true) (rf true))) (ai (rf (cxC lf m M ⟨n'2 + 1, n1, n'2, n'2 + 2, cr, cl, qu, cd, lo + 247, 0, t5, 0, u⟩)) (ai hm (ai hw (ai hml (ai hl (ai hM (ai (rf ([] : List (Nat × Code))) (fun (tk' ep' ee' mt' : Nat) (ys' : Array Value) (io' : Obj) (mk' : Str) (nq : List (Nat × Obj)) (x : CutsOf ys'.toList (r0 :: rs) (nq ++ q)) (x1 : nq.length ≤ 2) (n'3 gz'3 : Nat) => ai (r7 [n'3,n'2,n'2,n'2,lo,lo,lo]) (ai (ai (rf (n'3 + 247)) (ai (rf true) (rf true))) (ai (rf (lxC w.params eSel [] ⟨n'3 + 2, n'3, n'3 + 1, n'2, 0, qu, cd, lo + 247, #[], 0, ys', ep', 0, Value.none, 0, Value.none, 0⟩)) (ai (hsc ys' (nq ++ q) x) (ai (ha0 (nq ++ q)) (ai hf1 (ai (rf ([] : List (Nat × Code))) (fun (tk'1 : Nat) (ep'1 : Nat) (ys'1 : Array Value) (τ' : Nat) (σ' : Nat) (ee'1 : Nat) (v' : Value) (u' : Value) (io'1 : Obj) (nq1 : List (Nat × Obj)) (x2 : AccSel ys'1 (r0 :: rs) (nq1 ++ (nq ++ q))) => fun (x3 : FewQ nq1 (r0 :: rs)) (n'4 gz'4 : Nat) => ai (r7 [n'3 + 1,n'3 + 1,n'3 + 1,n'3 + 1,n'3 + 2,n'3 + 2,n'3 + 2]) (ai (rf (n'3 + 248)) (ai (rf (n'4 + 247)) (ai (hf2 ys'1 (nq1 ++ (nq ++ q)) x2) (fun (r : Nat) (z : Array Value) (x4 : SliceOf ys'1 none (some 1) z) (n'5 gz'5 : Nat) => ai (r7 [r,r,n'5,r,cr]) (ai (rf (laC ((r, z, 0, n'5, #[Value.int (Int.ofNat m) u], 0)))) (ai (hf3 ys'1 (nq1 ++ (nq ++ q)) z x2 x4) (ai (hz1 (Value.int (Int.ofNat m) u)) (fun (r1 : Nat) (z1 : Array Value) (x5 : CatOf z #[Value.int (Int.ofNat m) u] z1) (n'6 gz'6 : Nat) => ai (r7 [r1,r1,r1,r1,lo,cl,rw,rw,rw,rw,lo,lo,lo]) (ai (rf (r1 + 247)) (ai hi0 (ai hi1 (ai (hf4 ys'1 (nq1 ++ (nq ++ q)) z z1 x2 x4 x5) (fun (u1 n'7 gz'7 : Nat) => ai (r7 [lf,lf,lf,lf]) (ai (hm2 nq1 nq) (ai (rf (lf + 247)) (ai (rf (n'7 + 247)) (ai hs (fun (r2 : Nat) (z2 : Array Value) (x6 : SliceOf ws none (some (Int.ofNat cW)) z2) => ai (rf ({ cls := Value.type "list", data := Data.seq ws wep } : Obj)) (fun (n'8 gz'8 : Nat) => ai (r7 [rw]) (ai (rf (rw + 247)) (ai hx (fun (ep'2 n'9 gz'9 : Nat) => ai (r7 [lo]) (ai hd (fun (n'10 gz'10 : Nat) => ai (r7 [r1,r1,r1,r1,lo,cl]) (ai (rf (r1 + 247)) (ai hi0 (ai hi1 (ai (hf4 ys'1 (nq1 ++ (nq ++ q)) z z1 x2 x4 x5) (fun (u2 n'11 gz'11 : Nat) => ai (r7 [lf,lf,lf,lf]) (ai (hm3 [(r2 + 247, { cls := Value.type "list", data := Data.seq z2 })] nq1 nq) (ai (rf (lf + 247)) (ai (rf (n'11 + 247)) (ai hs (fun (r3 : Nat) (z3 : Array Value) (x7 : SliceOf ws (some (Int.ofNat cW)) none z3) => ai (rf ({ cls := Value.type "list", data := Data.seq ws wep } : Obj)) (fun (n'12 gz'12 : Nat) => ai (r7 [cl,cl,cr,cr,n'12 + 3,n'12 + 1,n'12 + 1,n'12,n'12 + 1,n'12 + 1,n'12 + 1,n'12 + 1,n'12 + 1,n'12 + 1,n'12,n'12 + 1,n'12 + 1,n'12 + 1,n'12 + 1,n'12 + 1,n'12 + 1,n'12,n'12 + 1,n'12 + 1,n'12 + 1,n'12 + 1,n'12 + 1,n'12,n'12,n'12,n'12]) (ai (rf (wxC w.params true mx m2 M ⟨lo, cr, cl, rw, qu, cd, t0, v0, t1, v1, t2, t3, t4, t5, t6, tk', Value.ref (n'2 + 247), tk'1 + 1, Value.ref (r1 + 247), ee + 2, tk'1 + 4, r3, xs.push (Value.ref (r2 + 247)), ep'2⟩)) (ai (hr1 r3 z3 ([(r2 + 247, { cls := Value.type "list", data := Data.seq z2 })] ++ (nq1 ++ (nq ++ q))) x7) (ai (hr2 r2 z2 ((r3 + 247, { cls := Value.type "list", data := Data.seq z3 })) nq1 nq x6) (ai (rf ([] : List (Nat × Code))) (fun (tk'2 : Nat) (t71 t81 ee1 : Nat) (m' : Nat) (u'1 : Nat) (lf' : Nat) (ep'3 : Nat) (v71 : Value) (v81 : Value) (xs' : Array Value) (nq2 : List (Nat × Obj)) (x8 : WhEnd xs' (lf' + 247) R2 f M mx m2 l2 (nq2 ++ ([(r3 + 247, { cls := Value.type "list", data := Data.seq z3 })] ++ ([(r2 + 247, { cls := Value.type "list", data := Data.seq z2 })] ++ (nq1 ++ (nq ++ q)))))) => fun (x9 : nq2.length ≤ 12 * f) (n'13 gz'13 : Nat) => hq tk'2 t71 t81 ee1 m' u'1 lf' ep'3 v71 v81 xs' nq nq1 nq2 ((r3 + 247, { cls := Value.type "list", data := Data.seq z3 })) ((r2 + 247, { cls := Value.type "list", data := Data.seq z2 })) x8 x1 x3 x9)))))))))))))))))))))))))))))))))))))))))))))))))))))))))))))))))))
  | true =>
    exact .go1 (subC hm sub0) (cC (ctQ_ok (a := lf) (xs := ws) (ep := wep) (ctLLen_ok w V k)) <| cC (ctGt_ok w V true) <| cC (ctS_ok hCu) <| cC (ctS_ok (loopS w V (r0 :: rs) [] (.inl rfl) [])) <| cC (ctSIter_ok w V) <| cC (ctSlc_ok w V) <| cC (ctLAdd_ok w V) <| cC (ctGetI_ok w V (Int.ofNat cW)) <| cC (ctN_ok (ctQ_ok (a := lf) (xs := ws) (ep := wep) (ctSlc_ok w V))) <| cC (ctApp_ok w V) <| cC (ctFd_ok w V m2) <| c1 hC) [0,0,4,0,2,0,0,3,0,2,1,0,2,0,2,4,0,6,2,2,6,6,4,5,7,1,2,2,2,2,7,7,0,7,0,10,2,3,4,10,8,9,5,12,12,12,11,11,11,0,11,2,5,2,9,11,0,3,14,15,14,0,14,2,6,2,12,13,2,2,2,5,5,5,5,4,2,16,16,16,0,16,2,7,1,14,1,0,1,0,1,0,0,1,0,2,8,1,15,0,5,2,9,1,3,2,0,2,10,0,4,2,16,16,16,0,16,2,7,1,14,1,0,1,0,1,0,0,1,0,2,8,1,16,19,19,19,0,19,0,20,20,0,20,0,20,20,19,20,20,20,0,20,0,20,20,19,20,20,20,0,20,0,20,20,19,20,20,22,3,3,4,4,2,11,4,0,1,2,3] [] [] j (by kernel_rfl) (by kernel_rfl) (ai (r7 [cl]) (ai hm (ai (rf (llC ((lf, ws, wep)))) (ai hk (ai (rf ({ cls := Value.type "list", data := Data.seq ws wep } : Obj)) (fun (n' gz' : Nat) => ai (r7 [cr]) (ai hg (fun (n'1 gz'1 : Nat) => ai (r7 [lo]) (ai (rf (siC (({ cps := M.toArray }, t5)))) (ai hA (fun (n1 n'2 gz'2 : Nat) => ai (r7 [n1]) (ai (ai (rf (n1 + 247)) (ai (rf true) (rf true))) (ai (rf (cxC lf m M ⟨n'2 + 1, n1, n'2, n'2 + 2, cr, cl, qu, cd, lo + 247, 0, t5, 0, u⟩)) (ai hm (ai hw (ai hml (ai hl (ai hM (ai (rf ([] : List (Nat × Code))) (fun (tk' ep' ee' mt' : Nat) (ys' : Array Value) (io' : Obj) (mk' : Str) (nq : List (Nat × Obj)) (x : CutsOf ys'.toList (r0 :: rs) (nq ++ q)) (x1 : nq.length ≤ 2) (n'3 gz'3 : Nat) => ai (r7 [n'3,n'2,n'2,n'2,lo,lo,lo]) (ai (ai (rf (n'3 + 247)) (ai (rf true) (rf true))) (ai (rf (lxC w.params eSel [] ⟨n'3 + 2, n'3, n'3 + 1, n'2, 0, qu, cd, lo + 247, #[], 0, ys', ep', 0, Value.none, 0, Value.none, 0⟩)) (ai (hsc ys' (nq ++ q) x) (ai (ha0 (nq ++ q)) (ai hf1 (ai (rf ([] : List (Nat × Code))) (fun (tk'1 : Nat) (ep'1 : Nat) (ys'1 : Array Value) (τ' : Nat) (σ' : Nat) (ee'1 : Nat) (v' : Value) (u' : Value) (io'1 : Obj) (nq1 : List (Nat × Obj)) (x2 : AccSel ys'1 (r0 :: rs) (nq1 ++ (nq ++ q))) => fun (x3 : FewQ nq1 (r0 :: rs)) (n'4 gz'4 : Nat) => ai (r7 [n'3 + 1,n'3 + 1,n'3 + 1,n'3 + 1,n'3 + 2,n'3 + 2,n'3 + 2]) (ai (rf (n'3 + 248)) (ai (rf (n'4 + 247)) (ai (hf2 ys'1 (nq1 ++ (nq ++ q)) x2) (fun (r : Nat) (z : Array Value) (x4 : SliceOf ys'1 none (some 1) z) (n'5 gz'5 : Nat) => ai (r7 [r,r,n'5,r,cr]) (ai (rf (laC ((r, z, 0, n'5, #[Value.int (Int.ofNat m) u], 0)))) (ai (hf3 ys'1 (nq1 ++ (nq ++ q)) z x2 x4) (ai (hz1 (Value.int (Int.ofNat m) u)) (fun (r1 : Nat) (z1 : Array Value) (x5 : CatOf z #[Value.int (Int.ofNat m) u] z1) (n'6 gz'6 : Nat) => ai (r7 [r1,r1,r1,r1,lo,cl,rw,rw,rw,rw,lo,lo,lo]) (ai (rf (r1 + 247)) (ai hi0 (ai hi1 (ai (hf4 ys'1 (nq1 ++ (nq ++ q)) z z1 x2 x4 x5) (fun (u1 n'7 gz'7 : Nat) => ai (r7 [lf,lf,lf,lf]) (ai (hm2 nq1 nq) (ai (rf (lf + 247)) (ai (rf (n'7 + 247)) (ai hs (fun (r2 : Nat) (z2 : Array Value) (x6 : SliceOf ws none (some (Int.ofNat cW)) z2) => ai (rf ({ cls := Value.type "list", data := Data.seq ws wep } : Obj)) (fun (n'8 gz'8 : Nat) => ai (r7 [rw]) (ai (rf (rw + 247)) (ai hx (fun (ep'2 n'9 gz'9 : Nat) => ai (r7 [lo]) (ai hd (fun (n'10 gz'10 : Nat) => ai (r7 [r1,r1,r1,r1,lo,cl]) (ai (rf (r1 + 247)) (ai hi0 (ai hi1 (ai (hf4 ys'1 (nq1 ++ (nq ++ q)) z z1 x2 x4 x5) (fun (u2 n'11 gz'11 : Nat) => ai (r7 [lf,lf,lf,lf]) (ai (hm3 [(r2 + 247, { cls := Value.type "list", data := Data.seq z2 })] nq1 nq) (ai (rf (lf + 247)) (ai (rf (n'11 + 247)) (ai hs (fun (r3 : Nat) (z3 : Array Value) (x7 : SliceOf ws (some (Int.ofNat cW)) none z3) => ai (rf ({ cls := Value.type "list", data := Data.seq ws wep } : Obj)) (fun (n'12 gz'12 : Nat) => ai (r7 [cl,cl,cr,cr,n'12 + 3,n'12 + 1,n'12 + 1,n'12,n'12 + 1,n'12 + 1,n'12 + 1,n'12 + 1,n'12 + 1,n'12 + 1,n'12,n'12 + 1,n'12 + 1,n'12 + 1,n'12 + 1,n'12 + 1,n'12 + 1,n'12,n'12 + 1,n'12 + 1,n'12 + 1,n'12 + 1,n'12 + 1,n'12,n'12,n'12,n'12]) (ai (rf (wxC w.params true mx m2 M ⟨lo, cr, cl, rw, qu, cd, t0, v0, t1, v1, t2, t3, t4, t5, t6, t7, Value.ref (n'2 + 247), t8, Value.ref (r1 + 247), ee, tk'1 + 4, r3, xs.push (Value.ref (r2 + 247)), ep'2⟩)) (ai (hr1 r3 z3 ([(r2 + 247, { cls := Value.type "list", data := Data.seq z2 })] ++ (nq1 ++ (nq ++ q))) x7) (ai (hr2 r2 z2 ((r3 + 247, { cls := Value.type "list", data := Data.seq z3 })) nq1 nq x6) (ai (rf ([] : List (Nat × Code))) (fun (tk'2 : Nat) (t71 t81 ee1 : Nat) (m' : Nat) (u'1 : Nat) (lf' : Nat) (ep'3 : Nat) (v71 : Value) (v81 : Value) (xs' : Array Value) (nq2 : List (Nat × Obj)) (x8 : WhEnd xs' (lf' + 247) R2 f M mx m2 l2 (nq2 ++ ([(r3 + 247, { cls := Value.type "list", data := Data.seq z3 })] ++ ([(r2 + 247, { cls := Value.type "list", data := Data.seq z2 })] ++ (nq1 ++ (nq ++ q)))))) => fun (x9 : nq2.length ≤ 12 * f) (n'13 gz'13 : Nat) => hq tk'2 t71 t81 ee1 m' u'1 lf' ep'3 v71 v81 xs' nq nq1 nq2 ((r3 + 247, { cls := Value.type "list", data := Data.seq z3 })) ((r2 + 247, { cls := Value.type "list", data := Data.seq z2 })) x8 x1 x3 x9)))))))))))))))))))))))))))))))))))))))))))))))))))))))))))))))))))
end
end Mine

namespace Mine
open PySem PySem.W PySem.W.X
noncomputable section
theorem wh_in {A B1 B q : List (Nat × Obj)} {x y p : Nat × Obj} {f : Nat} (h1 : A.length ≤ 12 * f) (h3 : B1.length ≤ 8) (h2 : B.length ≤ 2) (h : p ∈ A ++ ([x] ++ ([y] ++ (B1 ++ (B ++ q))))) : p ∈ ([] ++ takeL (12 * (f + 1)) (A ++ ([x] ++ ([y] ++ (B1 ++ (B ++ q)))))) ++ q := by
  have e : A ++ ([x] ++ ([y] ++ (B1 ++ (B ++ q)))) = (A ++ ([x] ++ ([y] ++ (B1 ++ B)))) ++ q := by simp
  rw [e] at h ⊢
  rcases List.mem_append.mp h with h | h
  · refine List.mem_append_left _ (takeL_in ?_ h)
    simp only [List.length_append, List.length_cons, List.length_nil]
    omega
  · exact List.mem_append_right _ h
theorem ctWh_ok (w : World) (V : Vol) {M : List Nat} {mx : Nat} (hM : MOk M) (h3 : 3 ≤ mx) (hmx : mx ≤ 100) : ∀ (f m : Nat) (l : List Str) (R : List (List Str)) (b : Bool), m ≤ 100 → 0 < l.length → l.length ≤ 100 → l.length + (1 - m) ≤ f → (b = false → m < l.length) → R.length + f ≤ 200 → CtOk w V (ctWh w.params b f M mx m l R)
  | 0, m, l, R, b, _, hl, _, h, _, _ => absurd h (by omega)
  | f + 1, m, l, R, b, hmb, hl0, hl1, hfu, hb, hRf => mkC_ok 100 rfl fun x q gs tk post h n gz => by
    obtain ⟨⟨ws, wep, hm, hw⟩, hR0, rfl, hq⟩ := h
    have hsz := words_size hw
    have hk : SzIs ws l.length := ⟨hsz, by omega⟩
    by_cases hlt : m < l.length
    · obtain ⟨c0, M', rfl⟩ : ∃ c0 M', M = c0 :: M' := by
        obtain ⟨⟨c1, rfl | ⟨c2, rfl⟩⟩, _⟩ := hM <;> exact ⟨_, _, rfl⟩
      have hMl : M'.length ≤ 1 := by
        obtain ⟨⟨c1, h | ⟨c2, h⟩⟩, _⟩ := hM <;> (injection h with _ h; rw [h]; simp)
      have hc1 := cutW_le (c0 :: M') l m
      have hcl : cutW (c0 :: M') l m ≤ l.length := by omega
      have hcp : 1 ≤ m → 1 ≤ cutW (c0 :: M') l m := cutW_pos (c0 :: M') l m
      have hl2 : (l.drop (cutW (c0 :: M') l m)).length = l.length - cutW (c0 :: M') l m := List.length_drop
      have hRl := hR0.length
      rw [Array.length_toList] at hRl
      have hC := ctWh_ok w V hM h3 hmx f (mx / 3) (l.drop (cutW (c0 :: M') l m)) (R ++ [l.take (cutW (c0 :: M') l m)]) true (by omega) (by omega) (by omega) (by omega) (fun h => by cases h) (by simp only [List.length_append, List.length_cons, List.length_nil]; omega)
      have hAcc : ∀ {ys : Array Value} {q : List (Nat × Obj)}, AccSel ys ([] ++ (findBrk (wst l c0) m :: M'.map fun c => findBrk (wst l c) m)) q → NumsOf ys ((((c0 :: M').map fun c => findBrk (wst l c) m).filterMap id).map Int.ofNat) := fun h => h
      refine whT w V (b := b) (R := R) (k := l.length) (cW := cutW (c0 :: M') l m) (j := 12 * (f + 1)) hC (ctCuts_ok w V rfl) hm hw (by omega) hl1 hM hk (decide_eq_true (by show ((l.length : Nat) : Int) > ((m : Nat) : Int); omega)) (ascii_of hM.2) (by show 0 + (M'.map _).length.succ ≤ 200; rw [List.length_map]; omega)
        (fun ys q h => ?_) (fun ys q z h hz => ?_) (fun ys q z z2 h hz hc => ?_) ⟨rfl, ?_⟩ (by show ws.size ≤ 1000; omega) (by omega) (fun r z q' h => ⟨z, 0, List.mem_cons_self .., words_drop hw hcl h⟩) (fun r z p nq1 nq h => ?_) (fun tk' t7 t8 ee m' u' lf' ep' v7 v8 xs' nq nq1 nq2 p1 p2 he h1 h2 h4 => ?_)
      · have h1 := (hAcc h).size
        have h2 := List.length_filterMap_le id ((c0 :: M').map fun c => findBrk (wst l c) m)
        rw [List.length_map] at h1 h2
        rw [List.length_cons] at h2
        show ys.size ≤ 1000
        omega
      · obtain ⟨t, _, h2⟩ := cut_head (M := c0 :: M') (u := 0) (by rw [List.nil_append]; exact hAcc h) hz
        show z.size ≤ 1000
        omega
      · obtain ⟨t, h1, _⟩ := cut_head (M := c0 :: M') (u := x.u) (by rw [List.nil_append]; exact hAcc h) hz
        exact ⟨t, by rw [show z2 = z ++ #[.int (Int.ofNat m) x.u] from hc]; exact h1⟩
      · show ((mx : Nat) : Int) / 3 = ((mx / 3 : Nat) : Int)
        omega
      · rw [Array.toList_push]
        exact RowsOf.snoc (List.mem_cons_of_mem _ (List.mem_cons_self ..)) (words_take hw hcl h) (hR0.mono fun p hp => by simp [hp])
      · have h2' : nq1.length ≤ 8 := by
          have : nq1.length ≤ 4 * (M'.map fun c => findBrk (wst l c) m).length.succ := h2
          rw [List.length_map] at this
          omega
        have hin : ∀ p : Nat × Obj, p ∈ nq2 ++ ([p1] ++ ([p2] ++ (nq1 ++ (nq ++ q)))) → p ∈ ([] ++ takeL (12 * (f + 1)) (nq2 ++ ([p1] ++ ([p2] ++ (nq1 ++ (nq ++ q)))))) ++ q := fun p hp => wh_in h4 h2' h1 hp
        obtain ⟨R', last, e1, e2, ws', wep', hm', hw'⟩ := he
        refine hq tk' t7 t8 ee m' u' lf' ep' v7 v8 xs' _ ⟨l.take (cutW (c0 :: M') l m) :: R', last, ?_, ?_, ws', wep', hin _ hm', hw'⟩ takeL_len
        · show (if m < l.length then _ else _) = _
          rw [if_pos hlt, e1]
          rfl
        · rw [List.append_assoc] at e2
          exact e2.mono fun p hp => hin p hp
    · cases b with
      | false => exact absurd (hb rfl) hlt
      | true =>
        refine whE w V hm hk (decide_eq_false (by show ¬ (((l.length : Nat) : Int) > ((m : Nat) : Int)); omega)) fun tk' => hq tk' x.t7 x.t8 x.ee m x.u x.lf x.ep x.v7 x.v8 x.xs [] ⟨[], l, rowsGo_short (by omega), by rw [List.append_nil]; exact hR0, ws, wep, hm, hw⟩ (Nat.zero_le _)
end
end Mine

namespace Mine
open PySem PySem.W PySem.W.X
noncomputable section
noncomputable def KnT (a : Nat) (l : List Str) (q : List (Nat × Obj)) : Prop := ∃ xs ep, (a, lstO xs ep) ∈ q ∧ TextsOf xs l
noncomputable def AtRow (xs : Array Value) (k : Int) (l : List Str) (q : List (Nat × Obj)) : Prop := ∃ a, AtI xs k (.ref (a + 247)) ∧ KnT (a + 247) l q
noncomputable def ctGetR (l : List Str) : Ct := ⟨4, fun c L q gs tk post => sRV nGet c L fun a vk xs F => kI vk fun k t => 0 ≤ k ∧ k < 1000000 ∧ AtRow xs k l q ∧ ∀ a : Nat, KnT (a + 247) l q → post (.ok (.ret (.ref (a + 247)))) tk (L.map Prod.snd) [] []⟩
theorem ctGetR_ok (w : World) (V : Vol) (l : List Str) : CtOk w V (ctGetR l) := by
  intro c L q gs tk post h
  dsimp only [ctGetR] at h
  obtain ⟨a, vk, kk, xs, rfl, rfl, h⟩ := sRV_e "list.__getitem__" (by decide +kernel) h
  obtain ⟨k, t, rfl, h0, hk, ⟨a1, hx, hkn⟩, hp⟩ := kI_e h
  intro A Q h g d os hr H hQ
  have ho := H.has _ (List.mem_cons_self ..)
  refine codeAny_builtin PySem.F.entry_list_getitem ?_
  show wpAny _ _ (Builtin.List.listSubscript? (.int k t) >>= _) _ _ _
  refine wpAny_bind (wpAny_listSubscript_int (fitsIndex_of h0 (by omega)) ?_)
  obtain ⟨j, rfl⟩ := Int.eq_ofNat_of_zero_le h0
  have hx' : xs[j]? = some (.ref (a1 + 247)) := hx
  show wpAny _ _ ((seqItemAt a j >>= fun r => pure (r.map (j, ·))) >>= _) _ _ _
  refine wpAny_bind (wpAny_bind (wpAny_seqItemAt ho rfl (wpAny_pure ?_)))
  rw [hx']
  first
    | exact wpAny_bind (wpAny_pure (wpAny_pure (hQ _ _ _ _ _ _ _ (hp a1 hkn) H.same)))
    | exact wpAny_pure (hQ _ _ _ _ _ _ _ (hp a1 hkn) H.same)
noncomputable def jkC (x : Str × Nat × Nat) : Cl := ⟨.builtin "str.join" ⟨[.str x.1 x.2.1, .ref (x.2.2 + 247)], []⟩, []⟩
noncomputable def ctJoinK (ls : List Str) (z : Str) : Ct := mkC 4 (fun c _ _ => (vS (arg c 0), vT (arg c 0), vA (arg c 1))) jkC fun x q gs tk post =>
  KnT (x.2.2 + 247) ls q ∧ JoinTo x.1 ls z ∧ ∀ t tk' : Nat, post (.ok (.ret (.str z t))) tk' [] [] []
theorem ctJoinK_ok (w : World) (V : Vol) (ls : List Str) (z : Str) : CtOk w V (ctJoinK ls z) := mkC_by fun x q gs tk post hp A Q h g d os hr H hQ => by
  obtain ⟨⟨xs, ep, hm, ht⟩, hj, hp⟩ := hp
  refine ctQ_ok (a := x.2.2) (xs := xs) (ep := ep) (ctJoinL_ok w V ls z) (jkC x).c [] q gs tk post ⟨hm, ?_, ht, hj, fun t tk' => ⟨rfl, hp t tk'⟩⟩ A Q h g d os hr H hQ
  show Cl.mk _ _ = jlC (x.1, x.2.1, x.2.2 + 247 - 247, xs, ep)
  rw [Nat.add_sub_cancel]
  rfl
noncomputable def rqC (hd mx : Nat) (M : List Nat) (x : Nat × Nat × Nat × Nat) : Cl := ⟨.call (.ref 240) ⟨[.ref (x.1 + 247), .int (Int.ofNat hd) x.2.1, .int (Int.ofNat mx) x.2.2.1, .str ⟨M.toArray⟩ x.2.2.2], []⟩, []⟩
noncomputable def ctRowsQ (hd mx : Nat) (M : List Nat) (l out : List Str) : Ct := mkC 190 (fun c _ _ => (vA (arg c 0), vT (arg c 1), vT (arg c 2), vT (arg c 3))) (rqC hd mx M) fun x q gs tk post =>
  WhIn (x.1 + 247) l q ∧ gs = [] ∧ ∀ (n tk' : Nat) (xs : Array Value), TextsOf xs out → post (.ok (.ret (.ref (n + 247)))) tk' [] [(n + 247, lstO xs 0)] []
theorem rqRun (w : World) (V : Vol) {q : List (Nat × Obj)} {tk n gz hd mx m f a t u v x wep : Nat} {M : List Nat} {l out r0 r1 : List Str} {rs : List (List Str)} {z0 : Str} {ws : Array Value} {b : Bool} {post : Post} (hm : (a + 247, lstO ws wep) ∈ q) (hC : CtOk w V (ctWh w.params false f M mx m l []))
    (hd3 : Div3 (Int.ofNat mx - Int.ofNat hd + 1) 3 m) (hg : IntGt (Int.ofNat m) 0 b) (hb : (if b then Int.ofNat m else 0) = Int.ofNat m) (hw : WhIn (a + 247) l q)
    (h1 : ∀ xs a q', WhEnd xs (a + 247) [] f M mx m l q' → xs.size ≤ 1000000) (h2 : ∀ xs a q', WhEnd xs (a + 247) [] f M mx m l q' → AtRow (xs.push (.ref (a + 247))) 0 r0 q') (h3 : ∀ xs a q' v, WhEnd xs (a + 247) [] f M mx m l q' → SzLe (xs.push v) 1000)
    (h4 : ∀ xs a q' z, WhEnd xs (a + 247) [] f M mx m l q' → SliceOf (xs.push (.ref (a + 247))) (some 1) none z → SrcRows z 0 (r1 :: rs) q') (h5 : JoinTo (S " ") r0 z0) (h6 : Few ([] : List (List Str)) (r1 :: rs)) (h7 : ∀ ys q, AccR ys ([] ++ (r1 :: rs)) q → SzLe ys 1000)
    (hq : ∀ (n tk' t : Nat) (ys xs : Array Value) (q' : List (Nat × Obj)), AccR ys ([] ++ (r1 :: rs)) q' → CatOf #[.str z0 t] ys xs → post (.ok (.ret (.ref (n + 247)))) tk' [] [(n + 247, lstO xs 0)] []) :
    Runs w V 180 (rqC hd mx M (a, u, v, x)).c (rqC hd mx M (a, u, v, x)).L q [] tk n gz post := by
  have ha0 : ∀ q, AccR #[] [] q := fun q => textsNil
  have hr0 : ∀ q, RowsOf [] [] q := fun q => trivial
  have hz1 : ∀ v : Value, SzLe #[v] 1000 := fun v => by unfold SzLe; exact Nat.le_of_ble_eq_true rfl
  have hi0 : (0 : Int) ≤ 0 := Int.le_refl 0
  have hi1 : (0 : Int) < 1000000 := by decide
  cases b with
  | true =>
    exact .go1 (subC hm sub0) (cC (ctFd_ok w V m) <| cC (ctGt_ok w V true) <| cC hC <| cC (ctApp_ok w V) <| cC (ctGetR_ok w V r0) <| cC (ctJoinK_ok w V r0 z0) <| cC (ctSlc_ok w V) <| cC (ctS_ok (loopRw w V (r1 :: rs) [] (.inl rfl) [])) <| c1 (ctLAdd_ok w V)) [0,2,2,2,2,2,2,2,2,0,0,0,0,2,2,0,0,0,0,0,2,0,0,0,0,6,6,0,6,0,7,0,8,7,0,7,0,7,7,6,7,7,8,8,8,0,8,7,0,7,0,7,7,6,7,7,0,2,1,0,8,8,8,0,8,7,0,7,0,7,7,6,7,7,10,8,8,8,2,11,11,11,0,11,0,12,12,0,12,0,12,12,11,12,12,12,0,12,0,12,12,11,12,12,12,0,12,0,12,12,11,12,12,12,0,12,0,12,12,11,12,12,14,2,2,3,3,4,4,2,2,4,0,1,2,3,2,5,5,5,5,4,0,5,2,3,1,3,2,5,5,5,0,5,2,4,1,3,0,2,5,0,2,5,5,5,0,5,2,6,2,3,14,17,17,0,17,0,18,2,7,4,18,16,17,15,20,20,20,15,19,15,0,15,2,8,2,13,17] [19] [] 0 (by kernel_rfl) (by kernel_rfl) (ai (r7 [n,n,n,n,n,n,n,n,n,n]) (ai hd3 (fun (n' gz' : Nat) => ai (r7 [n' + 1,n' + 1,n',n' + 1,n' + 1,n' + 1,n' + 1,n' + 2,n' + 2,n' + 2,n' + 2,n' + 1,n' + 1,n',n' + 1,n' + 1,n' + 1,n' + 1,n' + 2,n' + 1,n',n',n']) (ai hg (fun (n'1 gz'1 : Nat) => ai (r7 [n + 2,n + 2,n + 1,n + 1,n,n,n'1 + 5,n'1 + 3,n'1 + 3,n'1 + 2,n'1 + 3,n'1 + 3,n'1 + 3,n'1 + 3,n'1 + 3,n'1 + 3,n'1 + 2,n'1 + 3,n'1 + 3,n'1 + 3,n'1 + 3,n'1 + 3,n'1 + 3,n'1 + 2,n'1 + 3,n'1 + 3,n'1 + 3,n'1 + 3,n'1 + 3,n'1 + 3,n'1 + 2,n'1 + 3,n'1 + 3,n'1 + 3,n'1 + 3,n'1 + 3,n'1 + 2,n'1 + 2,n'1 + 2,n'1 + 2,n,n' + 2,n' + 2,n' + 2,n'1 + 1,n' + 1,n' + 1,n',n' + 1,n' + 1,n' + 1,n' + 1,n' + 2,n' + 2,n' + 2,n' + 2]) (ai (rf (wxC w.params false mx m M ⟨n, n + 1, n + 2, n + 3, S "_law_rows.<locals>.", Value.ref 239, tk, Value.ref (a + 247), tk + 1, Value.int (Int.ofNat hd) u, tk + 2, v, tk + 3, x, tk + 10, 0, Value.none, 0, Value.none, 5, tk + 9, a, #[], 0⟩)) (ai hw (ai (hr0 q) (ai (rf ([] : List (Nat × Code))) (fun (tk' t7 t8 ee m' u' lf' ep' : Nat) (v7 v8 : Value) (xs' : Array Value) (nq : List (Nat × Obj)) (x1 : WhEnd xs' (lf' + 247) [] f M mx m l (nq ++ q)) (x2 : nq.length ≤ 12 * f) (n'2 gz'2 : Nat) => ai (r7 [n + 3,n + 2,n + 3,n + 3,n + 3,n + 3,n]) (ai (rf (n + 250)) (ai (h1 xs' lf' (nq ++ q) x1) (fun (ep'1 n'3 gz'3 : Nat) => ai (r7 [n + 3,n + 3,n + 3,n + 3,n]) (ai (rf (n + 250)) (ai hi0 (ai hi1 (ai (h2 xs' lf' (nq ++ q) x1) (fun (x3 : Nat) (x4 : KnT (x3 + 247) r0 (nq ++ q)) (n'4 gz'4 : Nat) => ai (r7 []) (ai (rf (jkC ((S " ", tk', x3)))) (ai x4 (ai h5 (fun (t1 tk'1 n'5 gz'5 : Nat) => ai (r7 [n + 3,n + 3,n + 3,n + 3,n]) (ai (rf (n + 250)) (ai (rf (n'5 + 248)) (ai (h3 xs' lf' (nq ++ q) (Value.ref (lf' + 247)) x1) (fun (r : Nat) (z : Array Value) (x5 : SliceOf (xs'.push (Value.ref (lf' + 247))) (some 1) none z) => fun (n'6 gz'6 : Nat) => ai (r7 [n'6,r,r,r]) (ai (ai (rf (n'6 + 247)) (ai (rf true) (rf true))) (ai (rf (lxC w.params eRow [] ⟨n'6 + 2, n'6, n'6 + 1, r, 0, S "_law_rows.<locals>.", Value.ref 239, n + 247, #[], 0, z, 0, 0, Value.none, 0, Value.none, 0⟩)) (ai (h4 xs' lf' (nq ++ q) z x1 x5) (ai (ha0 (nq ++ q)) (ai h6 (ai (rf ([] : List (Nat × Code))) (fun (tk'2 : Nat) (ep'2 : Nat) (ys' : Array Value) (τ' : Nat) (σ' : Nat) (ee' : Nat) (v' : Value) (u'1 : Value) (io' : Obj) (nq1 : List (Nat × Obj)) (x6 : AccR ys' (r1 :: rs) (nq1 ++ (nq ++ q))) => fun (x7 : FewQ nq1 (r1 :: rs)) (n'7 gz'7 : Nat) => ai (r7 [n'5,n'5,n'6 + 1,n'5,n'6 + 2,n'6 + 2,n'6 + 2]) (ai (rf (laC ((n'5, #[Value.str z0 t1], 0, n'6 + 1, ys', ep'2)))) (ai (hz1 (Value.str z0 t1)) (ai (h7 ys' (nq1 ++ (nq ++ q)) x6) (fun (r2 : Nat) (z1 : Array Value) (x8 : CatOf #[Value.str z0 t1] ys' z1) (n'8 gz'8 : Nat) => ai (r7 []) (hq r2 tk'2 t1 ys' z1 (nq1 ++ (nq ++ q)) x6 x8))))))))))))))))))))))))))))))))))))))
  | false =>
    obtain rfl : m = 0 := by have : (0 : Int) = (m : Int) := hb; omega
    exact .go1 (subC hm sub0) (cC (ctFd_ok w V 0) <| cC (ctGt_ok w V false) <| cC hC <| cC (ctApp_ok w V) <| cC (ctGetR_ok w V r0) <| cC (ctJoinK_ok w V r0 z0) <| cC (ctSlc_ok w V) <| cC (ctS_ok (loopRw w V (r1 :: rs) [] (.inl rfl) [])) <| c1 (ctLAdd_ok w V)) [0,2,2,2,2,2,2,2,2,0,0,0,0,2,2,0,0,0,0,0,2,0,0,0,0,6,6,0,6,0,7,0,8,7,0,7,0,7,7,6,7,7,8,8,8,0,8,7,0,7,0,7,7,6,7,7,0,2,1,0,0,8,7,0,7,0,7,7,6,7,7,10,8,8,8,2,11,11,11,0,11,0,12,12,0,12,0,12,12,11,12,12,12,0,12,0,12,12,11,12,12,12,0,12,0,12,12,11,12,12,12,0,12,0,12,12,11,12,12,14,2,2,3,3,4,4,2,2,4,0,1,2,3,2,5,5,5,5,4,0,5,2,3,1,3,2,5,5,5,0,5,2,4,1,3,0,2,5,0,2,5,5,5,0,5,2,6,2,3,14,17,17,0,17,0,18,2,7,4,18,16,17,15,20,20,20,15,19,15,0,15,2,8,2,13,17] [19] [] 0 (by kernel_rfl) (by kernel_rfl) (ai (r7 [n,n,n,n,n,n,n,n,n,n]) (ai hd3 (fun (n' gz' : Nat) => ai (r7 [n' + 1,n' + 1,n',n' + 1,n' + 1,n' + 1,n' + 1,n' + 2,n' + 2,n' + 2,n' + 2,n' + 1,n' + 1,n',n' + 1,n' + 1,n' + 1,n' + 1,n' + 2,n' + 1,n',n',n']) (ai hg (fun (n'1 gz'1 : Nat) => ai (r7 [n + 2,n + 2,n + 1,n + 1,n,n,n'1 + 5,n'1 + 3,n'1 + 3,n'1 + 2,n'1 + 3,n'1 + 3,n'1 + 3,n'1 + 3,n'1 + 3,n'1 + 3,n'1 + 2,n'1 + 3,n'1 + 3,n'1 + 3,n'1 + 3,n'1 + 3,n'1 + 3,n'1 + 2,n'1 + 3,n'1 + 3,n'1 + 3,n'1 + 3,n'1 + 3,n'1 + 3,n'1 + 2,n'1 + 3,n'1 + 3,n'1 + 3,n'1 + 3,n'1 + 3,n'1 + 2,n'1 + 2,n'1 + 2,n'1 + 2,n,n' + 2,n' + 2,n' + 2,n'1 + 1,n' + 1,n' + 1,n',n' + 1,n' + 1,n' + 1,n' + 1,n' + 2]) (ai (rf (wxC w.params false mx 0 M ⟨n, n + 1, n + 2, n + 3, S "_law_rows.<locals>.", Value.ref 239, tk, Value.ref (a + 247), tk + 1, Value.int (Int.ofNat hd) u, tk + 2, v, tk + 3, x, tk + 10, 0, Value.none, 0, Value.none, 5, tk + 4, a, #[], 0⟩)) (ai hw (ai (hr0 q) (ai (rf ([] : List (Nat × Code))) (fun (tk' t7 t8 ee m' u' lf' ep' : Nat) (v7 v8 : Value) (xs' : Array Value) (nq : List (Nat × Obj)) (x1 : WhEnd xs' (lf' + 247) [] f M mx 0 l (nq ++ q)) (x2 : nq.length ≤ 12 * f) (n'2 gz'2 : Nat) => ai (r7 [n + 3,n + 2,n + 3,n + 3,n + 3,n + 3,n]) (ai (rf (n + 250)) (ai (h1 xs' lf' (nq ++ q) x1) (fun (ep'1 n'3 gz'3 : Nat) => ai (r7 [n + 3,n + 3,n + 3,n + 3,n]) (ai (rf (n + 250)) (ai hi0 (ai hi1 (ai (h2 xs' lf' (nq ++ q) x1) (fun (x3 : Nat) (x4 : KnT (x3 + 247) r0 (nq ++ q)) (n'4 gz'4 : Nat) => ai (r7 []) (ai (rf (jkC ((S " ", tk', x3)))) (ai x4 (ai h5 (fun (t1 tk'1 n'5 gz'5 : Nat) => ai (r7 [n + 3,n + 3,n + 3,n + 3,n]) (ai (rf (n + 250)) (ai (rf (n'5 + 248)) (ai (h3 xs' lf' (nq ++ q) (Value.ref (lf' + 247)) x1) (fun (r : Nat) (z : Array Value) (x5 : SliceOf (xs'.push (Value.ref (lf' + 247))) (some 1) none z) => fun (n'6 gz'6 : Nat) => ai (r7 [n'6,r,r,r]) (ai (ai (rf (n'6 + 247)) (ai (rf true) (rf true))) (ai (rf (lxC w.params eRow [] ⟨n'6 + 2, n'6, n'6 + 1, r, 0, S "_law_rows.<locals>.", Value.ref 239, n + 247, #[], 0, z, 0, 0, Value.none, 0, Value.none, 0⟩)) (ai (h4 xs' lf' (nq ++ q) z x1 x5) (ai (ha0 (nq ++ q)) (ai h6 (ai (rf ([] : List (Nat × Code))) (fun (tk'2 : Nat) (ep'2 : Nat) (ys' : Array Value) (τ' : Nat) (σ' : Nat) (ee' : Nat) (v' : Value) (u'1 : Value) (io' : Obj) (nq1 : List (Nat × Obj)) (x6 : AccR ys' (r1 :: rs) (nq1 ++ (nq ++ q))) => fun (x7 : FewQ nq1 (r1 :: rs)) (n'7 gz'7 : Nat) => ai (r7 [n'5,n'5,n'6 + 1,n'5,n'6 + 2,n'6 + 2,n'6 + 2]) (ai (rf (laC ((n'5, #[Value.str z0 t1], 0, n'6 + 1, ys', ep'2)))) (ai (hz1 (Value.str z0 t1)) (ai (h7 ys' (nq1 ++ (nq ++ q)) x6) (fun (r2 : Nat) (z1 : Array Value) (x8 : CatOf #[Value.str z0 t1] ys' z1) (n'8 gz'8 : Nat) => ai (r7 []) (hq r2 tk'2 t1 ys' z1 (nq1 ++ (nq ++ q)) x6 x8))))))))))))))))))))))))))))))))))))))
end
end Mine

namespace Mine
open PySem PySem.W PySem.W.X
theorem rowsGo_len {M : List Nat} {mx : Nat} : ∀ (f room : Nat) (l : List Str), (rowsGo f M mx room l).length ≤ f + 1
  | 0, _, _ => Nat.le_refl _
  | f + 1, room, l => by
    unfold rowsGo
    split
    · rw [List.length_cons]
      have := rowsGo_len (M := M) (mx := mx) f (mx / 3) (l.drop (cutW M l room))
      omega
    · show 1 ≤ _
      omega
theorem rowsGo_le {M : List Nat} {mx : Nat} : ∀ (f room : Nat) (l : List Str), ∀ r ∈ rowsGo f M mx room l, r.length ≤ l.length ∧ ∀ x ∈ r, x ∈ l
  | 0, _, l => fun r hr => by rw [List.mem_singleton.mp hr]; exact ⟨Nat.le_refl _, fun x h => h⟩
  | f + 1, room, l => fun r hr => by
    unfold rowsGo at hr
    split at hr
    · rcases List.mem_cons.mp hr with rfl | hr
      · exact ⟨by rw [List.length_take]; omega, fun x h => List.mem_of_mem_take h⟩
      · have := rowsGo_le (M := M) (mx := mx) f (mx / 3) (l.drop (cutW M l room)) r hr
        rw [List.length_drop] at this
        exact ⟨by omega, fun x h => List.mem_of_mem_drop (this.2 x h)⟩
    · rw [List.mem_singleton.mp hr]; exact ⟨Nat.le_refl _, fun x h => h⟩
theorem rowsGo_full {M : List Nat} {mx : Nat} (hm : 3 ≤ mx) : ∀ (f room : Nat) (l : List Str), 1 ≤ room → l ≠ [] → ∀ r ∈ rowsGo f M mx room l, r ≠ []
  | 0, _, l, _, h => fun r hr => by rw [List.mem_singleton.mp hr]; exact h
  | f + 1, room, l, h1, h => fun r hr => by
    unfold rowsGo at hr
    have hc := cutW_le M l room
    have hp := cutW_pos M l room h1
    split at hr
    · rename_i hlt
      rcases List.mem_cons.mp hr with rfl | hr
      · intro e
        have := congrArg List.length e
        rw [List.length_take] at this
        simp only [List.length_nil] at this
        omega
      · refine rowsGo_full hm f (mx / 3) (l.drop (cutW M l room)) (by omega) (fun e => ?_) r hr
        have := congrArg List.length e
        rw [List.length_drop] at this
        simp only [List.length_nil] at this
        omega
    · rw [List.mem_singleton.mp hr]; exact h
theorem drop1_slice {xs z : Array Value} (hs : 1 ≤ xs.size) (h : SliceOf xs (some 1) none z) : z.toList = xs.toList.drop 1 := by
  unfold SliceOf at h
  rw [slicePick_plain] at h
  have e : clipAt xs.size 1 = 1 := clip_nat (c := 1) hs
  simp only [Option.elim, e] at h
  rw [h, List.toList_toArray, List.take_of_length_le (by rw [List.length_drop, Array.length_toList]; exact Nat.le_refl _)]
theorem ctRowsQ_ok (w : World) (V : Vol) {hd mx : Nat} {M : List Nat} {l out : List Str} (hM : MOk M) (h3 : 3 ≤ mx) (hmx : mx ≤ 100) (hhd : hd ≤ mx + 1) (hlt : (mx + 1 - hd) / 3 < l.length) (hl50 : l.length ≤ 50) (hout : rend (rowsGo (l.length + 1) M mx ((mx + 1 - hd) / 3) l) = out) : CtOk w V (ctRowsQ hd mx M l out) := mkC_ok 180 rfl fun x q gs tk post h n gz => by
  obtain ⟨a, u, v, x⟩ := x
  obtain ⟨⟨ws, wep, hm, hw⟩, rfl, hq⟩ := h
  obtain ⟨m, hmm⟩ : ∃ m, (mx + 1 - hd) / 3 = m := ⟨_, rfl⟩
  rw [hmm] at hlt hout
  have hcl := cutW_le M l m
  have hgo : rowsGo (l.length + 1) M mx m l = l.take (cutW M l m) :: rowsGo l.length M mx (mx / 3) (l.drop (cutW M l m)) := if_pos hlt
  have hdl : l.drop (cutW M l m) ≠ [] := fun e => by
    have := congrArg List.length e
    rw [List.length_drop] at this
    simp only [List.length_nil] at this
    omega
  have hfl := rowsGo_full (M := M) h3 l.length (mx / 3) (l.drop (cutW M l m)) (by omega) hdl
  have hle := rowsGo_le (M := M) (mx := mx) (l.length + 1) m l
  have hlen := rowsGo_len (M := M) (mx := mx) (l.length + 1) m l
  obtain ⟨r1, rs, hrr⟩ : ∃ r1 rs, rowsGo l.length M mx (mx / 3) (l.drop (cutW M l m)) = r1 :: rs := by
    cases e : rowsGo l.length M mx (mx / 3) (l.drop (cutW M l m)) with
    | nil =>
      exfalso
      cases hl : l.length with
      | zero => rw [hl] at e; cases e
      | succ k =>
        rw [hl] at e
        unfold rowsGo at e
        split at e <;> cases e
    | cons r1 rs => exact ⟨r1, rs, rfl⟩
  rw [hrr] at hgo hfl
  generalize l.take (cutW M l m) = r0 at hgo
  rw [hgo] at hle hlen hout
  have hlen2 : rs.length + 2 ≤ 60 := by simp only [List.length_cons] at hlen; omega
  have hall : ∀ {xs' : Array Value} {a : Nat} {q' : List (Nat × Obj)}, WhEnd xs' (a + 247) [] (l.length + 1) M mx m l q' → RowsOf (xs'.push (.ref (a + 247))).toList (r0 :: r1 :: rs) q' := fun {xs' a q'} ⟨R', last, e1, e2, ws', wep', hm', hw'⟩ => by
    rw [hgo] at e1
    rw [e1, Array.toList_push]
    exact RowsOf.snoc hm' hw' e2
  have hsz : ∀ {xs' : Array Value} {a : Nat} {q' : List (Nat × Obj)}, WhEnd xs' a [] (l.length + 1) M mx m l q' → xs'.size ≤ 60 := fun {xs' a q'} ⟨R', last, e1, e2, _⟩ => by
    have h3 := e2.length
    rw [hgo] at e1
    have h4 := congrArg List.length e1
    rw [List.length_append] at h4
    rw [Array.length_toList, List.nil_append] at h3
    simp only [List.length_cons, List.length_nil] at h4
    omega
  have hwd : ∀ x ∈ r0, x.length ≤ 100 := fun x hx => by
    obtain ⟨aa, bb, e⟩ := hw.2 x ((hle r0 (List.mem_cons_self ..)).2 x hx)
    rw [e]
    exact (show (2 : Nat) ≤ 100 by decide)
  have hjf := fits_of (sep := S " ") (by decide) (by have := (hle r0 (List.mem_cons_self ..)).1; omega) hwd
  have hC := ctWh_ok w V hM h3 hmx (l.length + 1) m l [] false (by omega) (by omega) (by omega) (by omega) (fun _ => hlt) (by simp only [List.length_nil]; omega)
  refine rqRun w V (t := 0) (b := decide (0 < m)) (f := l.length + 1) (r0 := r0) (r1 := r1) (rs := rs) (z0 := Txt.join (S " ") r0) (out := out) hm hC ⟨rfl, ?_⟩ ?_ ?_ ⟨ws, wep, hm, hw⟩ (fun xs a q' h => Nat.le_trans (hsz h) (by decide)) (fun xs a q' h => ?_) (fun xs a q' v h => ?_) (fun xs a q' z h hz => ?_) hjf ?_ (fun ys q h => ?_) (fun n tk' t ys xs q' h1 h2 => hq n tk' xs ?_)
  · show ((mx : Int) - (hd : Int) + 1) / 3 = ((m : Nat) : Int)
    rw [← hmm]
    omega
  · show decide (((m : Nat) : Int) > 0) = decide (0 < m)
    simp
  · by_cases h : 0 < m
    · simp [h]
    · have : m = 0 := by omega
      subst this
      rfl
  · obtain ⟨t, vs, z, zep, e, hz, hzw, hrest⟩ := rows_cons (hall h)
    refine ⟨t, ?_, z, zep, hz, hzw.1⟩
    show (xs.push (.ref (a + 247)))[0]? = _
    rw [← Array.getElem?_toList, e]
    rfl
  · have := hsz h
    show (xs.push v).size ≤ 1000
    rw [Array.size_push]
    omega
  · obtain ⟨t, vs, z', zep, e, _, _, hrest⟩ := rows_cons (hall h)
    refine ⟨?_, fun r hr => ⟨hfl r hr, by have := (hle r (List.mem_cons_of_mem _ hr)).1; omega⟩⟩
    rw [List.drop_zero, drop1_slice (by rw [Array.size_push]; omega) hz, e]
    exact hrest
  · show 0 + (rs.length + 1) ≤ 200
    omega
  · have := TextsOf.size h
    simp only [List.nil_append, List.length_map, List.length_cons] at this
    show ys.size ≤ 1000
    omega
  · obtain ⟨ts, h3, rfl⟩ := h1
    rw [show xs = _ from h2, ← hout]
    refine ⟨t :: ts, ?_, ?_⟩
    · simp only [List.nil_append, List.length_cons] at h3 ⊢
      rw [h3]
      rfl
    · rw [show (#[Value.str (Txt.join (S " ") r0) t] : Array Value) = [Value.str (Txt.join (S " ") r0) t].toArray from rfl, List.append_toArray]
      rfl
end Mine

namespace Mine
open PySem PySem.W PySem.W.X
noncomputable section
noncomputable def ents (P : Params) : Array DictEntry := match (ob39 P).data with
  | .dict es _ => es
  | _ => #[]
noncomputable def tokAt (P : Params) (x : Str) : Option Value := findBy Value.isStrOf (ents P) x
theorem tok_map (w : World) {h : Heap} (ho : h.get? 39 = some (ob39 w.params)) : h.MapOf (strKind PW w) 39 (tokAt w.params) := by
  refine ⟨ob39 w.params, ents w.params, _, ho, ⟨rfl, rfl, rfl⟩, rfl, ?_, fun k => rfl⟩
  intro en he
  have : ∀ en ∈ (ents w.params).toList, ∃ s t v, en = e w.params s t v := by
    unfold ents ob39
    dsimp only
    repeat (first | exact List.forall_mem_nil _ | refine List.forall_mem_cons.mpr ⟨⟨_, _, _, rfl⟩, ?_⟩)
  obtain ⟨s, t, v, rfl⟩ := this en (Array.mem_toList_iff.mpr he)
  exact ⟨S s, by simp [strKind, Value.isStrOf, e], rfl⟩
noncomputable def intOf (v : Option Value) : Option Int := match v with
  | some (.int i _) => some i
  | _ => none
theorem tok_int (P : Params) : ∀ k, k < 19 → intOf (tokAt P (symTab.getD k (0, ⟨#[]⟩)).2) = some (symTab.getD k (0, ⟨#[]⟩)).1
  | 0, _ | 1, _ | 2, _ | 3, _ | 4, _ | 5, _ | 6, _ | 7, _ | 8, _ | 9, _ | 10, _ | 11, _ | 12, _ | 13, _ | 14, _ | 15, _ | 16, _ | 17, _ | 18, _ => by kernel_rfl
  | m + 19, h => absurd h (by omega)
theorem tok_none (P : Params) : ∀ k, k < 5 → tokAt P (symTab.getD (19 + k) (0, ⟨#[]⟩)).2 = none
  | 0, _ | 1, _ | 2, _ | 3, _ | 4, _ => by kernel_rfl
  | m + 5, h => absurd h (by omega)
noncomputable def TokTo (x : Str) (d num : Int) : Prop := ∃ k, k < 24 ∧ x = (symTab.getD k (0, ⟨#[]⟩)).2 ∧ num = (symTab.getD k (0, ⟨#[]⟩)).1 ∧ (k < 19 ∨ d = num)
noncomputable def tkC (x : Str × Nat × Int × Nat) : Cl := ⟨.builtin "dict.get" ⟨[.ref 39, .str x.1 x.2.1, .int x.2.2.1 x.2.2.2], []⟩, []⟩
noncomputable def ctTok (num : Int) : Ct := mkC 4 (fun c _ _ => (vS (arg c 1), vT (arg c 1), vI (arg c 2), vT (arg c 2))) tkC fun x q gs tk post => TokTo x.1 x.2.2.1 num ∧ ∀ t' : Nat, post (.ok (.ret (.int num t'))) (tk + 1) [] [] []
theorem ctTok_ok (w : World) (V : Vol) (num : Int) : CtOk w V (ctTok num) := mkC_by fun x q gs tk post hp A Q h g d0 os hr H hQ => by
  obtain ⟨x, t, d, u⟩ := x
  obtain ⟨⟨k, hk24, hx, rfl, hd⟩, hp⟩ := hp
  change x = _ at hx
  subst hx
  have ho : h.get? 39 = some (ob39 w.params) := H.top 39 _ rfl
  refine codeAny_builtin PySem.F.entry_dict_get ?_
  rw [Around.under_plainId (by decide +kernel) _]
  refine meets_dict_get_default (strKind PW w) (k := (symTab.getD k (0, ⟨#[]⟩)).2) (key := .str (symTab.getD k (0, ⟨#[]⟩)).2 t) 39 (by simp [strKind, Value.isStrOf]) (by decide +kernel) (.int d u) A Q _ ⟨tokAt w.params, tok_map w ho, ?_⟩
  by_cases hk : k < 19
  · have hi := tok_int w.params k hk
    unfold intOf at hi
    split at hi
    · rename_i i t' e
      cases hi
      rw [e]
      exact hQ _ _ _ _ _ _ _ (hp t') H.same
    · cases hi
  · obtain ⟨k', rfl⟩ : ∃ k', k = 19 + k' := ⟨k - 19, by omega⟩
    rw [tok_none w.params k' (by omega)]
    rcases hd with hd | hd
    · exact absurd hd hk
    · change d = _ at hd
      subst hd
      exact hQ _ _ _ _ _ _ _ (hp u) H.same
noncomputable def findZ (x y : Str) : Int := match Builtin.Str.occurrences x y 0 x.length 1 with
  | i :: _ => (i : Int)
  | [] => -1
noncomputable def FindTo (x y : Str) (z : Int) : Prop := findZ x y = z
noncomputable def ctFind (z : Int) : Ct := ctInt 7309177711655875956 fun l X => kSS l fun x y => FindTo x y z ∧ X z
theorem ctFind_ok (w : World) (V : Vol) (z : Int) : CtOk w V (ctFind z) := ctInt_ok w V (s := "str.find") (by decide +kernel) (by decide +kernel) PySem.F.entry_str_find fun l X h => by
  obtain ⟨x, t, y, u, rfl, h1, h2⟩ := kSS_e h
  have e : findZ x y = z := h1
  subst e
  exact ⟨_, gives_str_find x y t u, h2⟩
theorem sym_two_tab : ∀ k : Fin 24, (match (symTab.getD k.val (0, ⟨#[]⟩)).2.cps.toList with
  | [a, b] => decide (33 ≤ a ∧ a < 127 ∧ 33 ≤ b ∧ b < 127) && (decide (k.val < 19) || decide (256 + findZ (S "01234") ⟨#[b]⟩ = (symTab.getD k.val (0, ⟨#[]⟩)).1))
  | _ => false) = true := by decide +kernel
theorem sym_two (i : Int) : ∃ a b, (symOf i).2 = ⟨#[a, b]⟩ ∧ (33 ≤ a ∧ a < 127 ∧ 33 ≤ b ∧ b < 127) ∧ TokTo ⟨#[a, b]⟩ (256 + findZ (S "01234") ⟨#[b]⟩) (symOf i).1 := by
  obtain ⟨hlt, _⟩ := sym_lt i
  unfold symOf
  have h := sym_two_tab ⟨_, hlt⟩
  dsimp only at h
  split at h
  · rename_i a b e
    rw [Bool.and_eq_true, Bool.or_eq_true] at h
    have e' : (symTab.getD (i % 24).toNat (0, ⟨#[]⟩)).2 = ⟨#[a, b]⟩ := str_ext e
    exact ⟨a, b, e', of_decide_eq_true h.1, _, hlt, e'.symm, rfl, h.2.imp of_decide_eq_true of_decide_eq_true⟩
  · cases h
noncomputable def plainLC1 (e : Expr) : Bool := match e with
  | .ListComp _ (_ :: ⟨_, _, _, 0⟩ :: _) _ _ => true
  | _ => false
noncomputable def ctS1 (C : Ct) : Ct := ⟨C.lv, fun c L q gs tk post => match c with
  | .compStart e 1 (.ref I) (.ref A) env => kc L fun _ L1 => kc L1 fun p _ => (p.1 = I ∧ plainLC1 e = true ∧ selfB p.2 = true) ∧ C.pre (.compLoop e 1 (.ref I) (.ref A) env) L q gs tk post
  | _ => False⟩
section
variable {w : World} {A : Around} {R : Result → Shared → Prop} {s : Shared}
theorem compStart_one {elt : Expr} {g0 : Comprehension} {target iter : Expr} {ifs : List Expr} {rest : List Comprehension} {scope : Scope} {pos : Pos} {it acc : Value} {env : Env}
    (h0 : codeAny (model PW w) A (.compLoop (.ListComp elt (g0 :: ⟨target, iter, ifs, 0⟩ :: rest) scope pos) 1 it acc env) R s)
    (h : wpAny (model PW w) A (pyIter it) (fun it' s' => codeAny (model PW w) A (.compLoop (.ListComp elt (g0 :: ⟨target, iter, ifs, 0⟩ :: rest) scope pos) 1 it' acc env) R s')
      (notedBy (model PW w) A env fun x s' => R (.error x) s') s) :
    codeAny (model PW w) A (.compStart (.ListComp elt (g0 :: ⟨target, iter, ifs, 0⟩ :: rest) scope pos) 1 it acc env) R s := by
  refine codeAny_of_tree ?_
  show wpAny _ _ ((compStart (.ListComp elt (g0 :: ⟨target, iter, ifs, 0⟩ :: rest) scope pos) 1 it acc env).onRaise (fun x => do noteFrame x env; standAt theWindowsPlace)) _ _ s
  refine wpAny_notedAt ?_
  unfold compStart
  show wpAny _ _ (ask >>= _) _ _ s
  refine wpAny_bind (wpAny_askSetting (wpAny_ite ?_))
  split
  · first
      | exact wpAny_bind (wpAny_pure (wpAny_pure (And.intro rfl h0)))
      | exact wpAny_pure (And.intro rfl h0)
  · first
      | exact wpAny_bind (wpAny_rule (wpAny_bind (wpAny_standAt (wpAny_bind (wpAny_mono h (fun it' s' h' => wpAny_pure (And.intro rfl h')) fun _ _ x => x)))))
      | (refine wpAny_bind (wpAny_rule ?_); show wpAny _ _ (standAt iter.pos >>= _) _ _ s; exact wpAny_bind (wpAny_standAt (wpAny_bind (wpAny_mono h (fun it' s' h' => wpAny_pure (And.intro rfl h')) fun _ _ x => x))))
end
theorem ctS1_ok {w : World} {V : Vol} {C : Ct} (hC : CtOk w V C) : CtOk w V (ctS1 C) := by
  intro c L q gs tk post hp A Q h g d os hr H hQ
  simp only [ctS1] at hp
  split at hp
  case h_2 => exact hp.elim
  rename_i e I Ac env
  obtain ⟨x, L1, rfl, hp⟩ := kc_e hp
  obtain ⟨⟨I', io⟩, L2, rfl, ⟨h1, he, hs⟩, hp⟩ := kc_e hp
  have z := hC _ _ _ _ _ _ hp A Q h g d os hr H hQ
  obtain rfl : I' = I := h1
  have hI := H.has (I', io) (List.mem_cons_of_mem _ (List.mem_cons_self ..))
  unfold plainLC1 at he
  split at he
  · exact compStart_one z (iter_self hI (selfB_of hs) z)
  · cases he
noncomputable def lcCode1 (e : Expr) (I A : Nat) (env : Env) : Code := .compLoop e 1 (.ref I) (.ref A) env
noncomputable def nonE (x : Str) : Bool := !(x.cps.isEmpty)
noncomputable def numOf (x : Str) : Int := ((symTab.find? fun s => s.2 == x).map (·.1)).getD 0
theorem num_tab : ∀ k : Fin 24, numOf (symTab.getD k.val (0, ⟨#[]⟩)).2 = (symTab.getD k.val (0, ⟨#[]⟩)).1 := by decide +kernel
theorem num_of (i : Int) : numOf (symOf i).2 = (symOf i).1 := by
  obtain ⟨hlt, _⟩ := sym_lt i
  unfold symOf
  exact num_tab ⟨_, hlt⟩
noncomputable def Pc (x : Str) : Prop := x = ⟨#[]⟩ ∨ ∃ i, x = (symOf i).2
noncomputable def SrcPcs (xs : Array Value) (k : Nat) (l : List Str) : Prop := ∃ all, TextsOf xs all ∧ all.drop k = l ∧ ∀ x ∈ all, Pc x
noncomputable def ReadOut (ys : Array Value) (g : List Int) (l : List Str) : Prop := NumsOf ys (g ++ (l.filter nonE).map numOf)
noncomputable def FitsN {α : Type} (ys : Array Value) (l : List α) : Prop := ys.size + l.length ≤ 50000
theorem srcPcs_cons {xs : Array Value} {k : Nat} {x : Str} {l : List Str} (h : SrcPcs xs k (x :: l)) : (∃ t, AtN xs k (.str x t)) ∧ Pc x ∧ SrcPcs xs (k + 1) l := by
  obtain ⟨all, ⟨ts, h1, rfl⟩, h2, h3⟩ := h
  obtain ⟨hx, hd, hk⟩ := drop_cons (show DropOf all k (x :: l) from h2)
  refine ⟨⟨ts[k]'(by omega), ?_⟩, h3 x (List.mem_of_getElem? hx), all, ⟨ts, h1, rfl⟩, hd, h3⟩
  unfold AtN
  rw [List.getElem?_toArray, List.getElem?_zipWith, hx, List.getElem?_eq_getElem (by omega : k < ts.length)]
theorem srcPcs_nil {xs : Array Value} {k : Nat} (h : SrcPcs xs k []) : xs.size ≤ k := by
  obtain ⟨all, h1, h2, h3⟩ := h
  rw [h1.size]
  exact drop_nil h2
noncomputable def inC (P : Params) (F : List String) (x : Lx) : Cl := ⟨lcCode1 eRead (x.I + 247) (x.A + 247) (lcEnv eRead (x.lo + 247) [] x.qu x.cd (some x.fr)), [(x.lo + 247, frO2 P F x), (x.I + 247, liO (x.p + 247) x.k), (x.A + 247, lstO x.ys x.ep), (x.p + 247, lstO x.xs x.epx)]⟩
noncomputable def frI {α : Type} (P : Params) (F : List String) (l : List α) (x : Lx) (σ' ee' : Nat) (u' : Value) : Obj := match F with
  | [_] => match l with
    | [] => dcO [eZ P "row" x.τ x.v] x.ee
    | _ :: _ => dcO [eZ P "row" x.τ x.v, eZ P "word" σ' u'] ee'
  | _ => dcO [eZ P "row" x.τ x.v, eZ P "word" σ' u'] ee'
noncomputable def RdOk (P : Params) (F : List String) (l : List Str) (g : List Int) (x : Lx) (gs : List (Nat × Code)) (post : Post) : Prop :=
  SrcPcs x.xs x.k l ∧ NumsOf x.ys g ∧ FitsN x.ys l ∧ gs = [] ∧ ∀ (tk' ep' σ' ee' : Nat) (ys' : Array Value) (u' : Value) (io' : Obj), ReadOut ys' g l → post (.ok .next) tk' [frI P F l x σ' ee' u', io', lstO ys' ep', lstO x.xs x.epx] [] []
noncomputable def ctRd (P : Params) (F : List String) (l : List Str) (g : List Int) : Ct := mkC 60 (fun c L _ => lxS c L) (inC P F) fun x q gs tk post => RdOk P F l g x gs post
theorem eRead_lc : ∃ elt g0 target iter ifs rest scope pos, eRead = .ListComp elt (g0 :: ⟨target, iter, ifs, 0⟩ :: rest) scope pos := ⟨_, _, _, _, _, _, _, _, rfl⟩
theorem ctRd_ok (w : World) (V : Vol) : ∀ (l : List Str) (g : List Int) (F : List String), F = ["row"] ∨ F = ["row", "word"] → CtOk w V (ctRd w.params F l g)
  | [], g, F, hF => mkC_ok 20 rfl fun x q gs tk post h n gz => by
    obtain ⟨hsrc, hg, hft, rfl, hq⟩ := h
    obtain ⟨elt, g0, target, iter, ifs, rest, scope, pos, he⟩ := eRead_lc
    have hnn : ReadOut x.ys g [] := by unfold ReadOut; simpa using hg
    show Runs w V 20 (.compLoop eRead 1 (.ref (x.I + 247)) (.ref (x.A + 247)) (lcEnv eRead (x.lo + 247) [] x.qu x.cd (some x.fr))) _ _ _ _ _ _ _
    generalize lcEnv eRead (x.lo + 247) [] x.qu x.cd (some x.fr) = env
    rw [he]
    rcases hF with rfl | rfl
    · exact lpEnd1 w V (srcPcs_nil hsrc) fun tk' io' => hq _ _ 0 0 _ .none _ hnn
    · exact lpEnd1 w V (srcPcs_nil hsrc) fun tk' io' => hq _ _ x.τ2 x.ee _ x.v2 _ hnn
  | y :: l, g, F, hF => mkC_ok 60 rfl fun x q gs tk post h n gz => by
    obtain ⟨hsrc0, hg, hft, rfl, hq⟩ := h
    obtain ⟨⟨t1, hat⟩, hpc, hsrc⟩ := srcPcs_cons hsrc0
    have hft' : x.ys.size + (l.length + 1) ≤ 50000 := hft
    have hys : x.ys.size ≤ 1000000 := by omega
    replace hq : ∀ (tk' ep' σ' ee' : Nat) (ys' : Array Value) (u' : Value) (io' : Obj), ReadOut ys' g (y :: l) → post (.ok .next) tk' [dcO [eZ w.params "row" x.τ x.v, eZ w.params "word" σ' u'] ee', io', lstO ys' ep', lstO x.xs x.epx] [] [] := fun tk' ep' σ' ee' ys' u' io' h1 => by
      have z := hq tk' ep' σ' ee' ys' u' io' h1
      rcases hF with rfl | rfl <;> exact z
    obtain ⟨lo, I, A, p, k, qu, cd, fr, ys, ep, xs, epx, τ, v, τ2, v2, ee⟩ := x
    rcases hpc with rfl | ⟨i, rfl⟩
    · have hC := ctRd_ok w V l g ["row", "word"] (.inr rfl)
      have hte : TextEq ⟨#[]⟩ (S "") (!false) := by unfold TextEq; decide +kernel
      have hfit : FitsN ys l := by
        have : ys.size + (l.length + 1) ≤ 50000 := hft'
        show ys.size + l.length ≤ 50000
        omega
      replace hq : ∀ (tk' ep' σ' ee' : Nat) (ys' : Array Value) (u' : Value) (io' : Obj), ReadOut ys' g l → post (.ok .next) tk' [dcO [eZ w.params "row" τ v, eZ w.params "word" σ' u'] ee', io', lstO ys' ep', lstO xs epx] [] [] := fun tk' ep' σ' ee' ys' u' io' h1 => hq tk' ep' σ' ee' ys' u' io' h1
      rcases hF with rfl | rfl
      · exact .go1 sub0 (cC (ctLNext_ok w V (.str ⟨#[]⟩ t1)) <| cC (ctNeS_ok w V false) <| c1 hC) [3,0,3,2,0,2,1,3,2,2,2,0,2,1,0,2,2,4,0,1,2,3] [] [] 0 (by kernel_rfl) (by kernel_rfl) (ai (r7 [I,I]) (ai (rf (lnC ((I, p, k, { cls := Value.type "list", data := Data.seq xs epx })))) (ai (rf true) (ai hat (fun (n' gz' : Nat) => ai (r7 [lo,lo,lo]) (ai hte (fun (n'1 gz'1 : Nat) => ai (r7 []) (ai (rf (inC w.params ["row", "word"] ⟨lo, I, A, p, k + 1, qu, cd, fr, ys, ep, xs, epx, τ, v, tk, Value.str (S "") t1, ee + 1⟩)) (ai hsrc (ai hg (ai hfit (ai (rf ([] : List (Nat × Code))) (fun (tk' ep' σ' ee' : Nat) (ys' : Array Value) (u' : Value) (io' : Obj) (x : ReadOut ys' g l) (n'2 gz'2 : Nat) => hq tk' ep' σ' ee' ys' u' io' x)))))))))))))
      · exact .go1 sub0 (cC (ctLNext_ok w V (.str ⟨#[]⟩ t1)) <| cC (ctNeS_ok w V false) <| c1 hC) [3,0,3,2,0,2,1,3,2,2,2,0,2,1,0,2,2,4,0,1,2,3] [] [] 0 (by kernel_rfl) (by kernel_rfl) (ai (r7 [I,I]) (ai (rf (lnC ((I, p, k, { cls := Value.type "list", data := Data.seq xs epx })))) (ai (rf true) (ai hat (fun (n' gz' : Nat) => ai (r7 [lo,lo,lo]) (ai hte (fun (n'1 gz'1 : Nat) => ai (r7 []) (ai (rf (inC w.params ["row", "word"] ⟨lo, I, A, p, k + 1, qu, cd, fr, ys, ep, xs, epx, τ, v, τ2, Value.str (S "") t1, ee⟩)) (ai hsrc (ai hg (ai hfit (ai (rf ([] : List (Nat × Code))) (fun (tk' ep' σ' ee' : Nat) (ys' : Array Value) (u' : Value) (io' : Obj) (x : ReadOut ys' g l) (n'2 gz'2 : Nat) => hq tk' ep' σ' ee' ys' u' io' x)))))))))))))
    · have hC := ctRd_ok w V l (g ++ [(symOf i).1]) ["row", "word"] (.inr rfl)
      obtain ⟨a1, b1, e, hab, htk⟩ := sym_two i
      have hte : TextEq ⟨#[a1, b1]⟩ (S "") (!true) := by
        have e1 : (S "") = ⟨#[]⟩ := by decide +kernel
        rw [e1]
        rfl
      have hfz : FindTo (S "01234") ⟨#[b1]⟩ (findZ (S "01234") ⟨#[b1]⟩) := rfl
      have hfit : ∀ v, FitsN (ys.push v) l := fun v => by
        unfold FitsN
        rw [Array.size_push]
        show ys.size + 1 + l.length ≤ 50000
        have : ys.size + (l.length + 1) ≤ 50000 := hft'
        omega
      have hnp : ∀ t, NumsOf (ys.push (.int (symOf i).1 t)) (g ++ [(symOf i).1]) := fun t => NumsOf.push hg _ _
      replace hq : ∀ (tk' ep' σ' ee' : Nat) (ys' : Array Value) (u' : Value) (io' : Obj), ReadOut ys' (g ++ [(symOf i).1]) l → post (.ok .next) tk' [dcO [eZ w.params "row" τ v, eZ w.params "word" σ' u'] ee', io', lstO ys' ep', lstO xs epx] [] [] := fun tk' ep' σ' ee' ys' u' io' h1 => hq tk' ep' σ' ee' ys' u' io' (by
        unfold ReadOut at h1 ⊢
        have h2 : nonE (symOf i).2 = true := by rw [e]; rfl
        rw [List.filter_cons_of_pos h2, List.map_cons, num_of]
        simpa using h1)
      rw [e] at hat
      generalize findZ (S "01234") ⟨#[b1]⟩ = z at hfz htk
      generalize hng : g ++ [(symOf i).1] = g2 at hC hnp hq
      generalize (symOf i).1 = nu at htk hnp
      rcases hF with rfl | rfl
      · exact .go1 sub0 (cC (ctLNext_ok w V (.str ⟨#[a1, b1]⟩ t1)) <| cC (ctNeS_ok w V true) <| cC (ctFind_ok w V z) <| cC (ctTok_ok w V nu) <| cC (ctApp_ok w V) <| c1 hC) [3,0,3,2,0,2,1,3,2,2,2,0,2,1,0,0,0,0,0,0,2,2,0,0,6,6,6,6,0,2,2,0,0,0,0,0,2,3,0,0,4,2,4,1,2,2,5,4,0,1,2,3] [] [] 0 (by kernel_rfl) (by kernel_rfl) (ai (r7 [I,I]) (ai (rf (lnC ((I, p, k, { cls := Value.type "list", data := Data.seq xs epx })))) (ai (rf true) (ai hat (fun (n' gz' : Nat) => ai (r7 [lo,lo,lo]) (ai hte (fun (n'1 gz'1 : Nat) => ai (r7 [n'1,n'1,n'1,n'1,lo,lo]) (ai hfz (fun (n'2 gz'2 : Nat) => ai (r7 []) (ai (rf (tkC (({ cps := #[a1, b1] }, t1, 256 + z, tk + 7)))) (ai htk (fun (t' n'3 gz'3 : Nat) => ai (r7 [A]) (ai (rf (A + 247)) (ai hys (fun (ep' n'4 gz'4 : Nat) => ai (r7 []) (ai (rf (inC w.params ["row", "word"] ⟨lo, I, A, p, k + 1, qu, cd, fr, ys.push (Value.int nu t'), ep', xs, epx, τ, v, tk, Value.str { cps := #[a1, b1] } t1, ee + 1⟩)) (ai hsrc (ai (hnp t') (ai (hfit (Value.int nu t')) (ai (rf ([] : List (Nat × Code))) (fun (tk' ep'1 σ' ee' : Nat) (ys' : Array Value) (u' : Value) (io' : Obj) (x : ReadOut ys' g2 l) (n'5 gz'5 : Nat) => hq tk' ep'1 σ' ee' ys' u' io' x)))))))))))))))))))))
      · exact .go1 sub0 (cC (ctLNext_ok w V (.str ⟨#[a1, b1]⟩ t1)) <| cC (ctNeS_ok w V true) <| cC (ctFind_ok w V z) <| cC (ctTok_ok w V nu) <| cC (ctApp_ok w V) <| c1 hC) [3,0,3,2,0,2,1,3,2,2,2,0,2,1,0,0,0,0,0,0,2,2,0,0,6,6,6,6,0,2,2,0,0,0,0,0,2,3,0,0,4,2,4,1,2,2,5,4,0,1,2,3] [] [] 0 (by kernel_rfl) (by kernel_rfl) (ai (r7 [I,I]) (ai (rf (lnC ((I, p, k, { cls := Value.type "list", data := Data.seq xs epx })))) (ai (rf true) (ai hat (fun (n' gz' : Nat) => ai (r7 [lo,lo,lo]) (ai hte (fun (n'1 gz'1 : Nat) => ai (r7 [n'1,n'1,n'1,n'1,lo,lo]) (ai hfz (fun (n'2 gz'2 : Nat) => ai (r7 []) (ai (rf (tkC (({ cps := #[a1, b1] }, t1, 256 + z, tk + 7)))) (ai htk (fun (t' n'3 gz'3 : Nat) => ai (r7 [A]) (ai (rf (A + 247)) (ai hys (fun (ep' n'4 gz'4 : Nat) => ai (r7 []) (ai (rf (inC w.params ["row", "word"] ⟨lo, I, A, p, k + 1, qu, cd, fr, ys.push (Value.int nu t'), ep', xs, epx, τ, v, τ2, Value.str { cps := #[a1, b1] } t1, ee⟩)) (ai hsrc (ai (hnp t') (ai (hfit (Value.int nu t')) (ai (rf ([] : List (Nat × Code))) (fun (tk' ep'1 σ' ee' : Nat) (ys' : Array Value) (u' : Value) (io' : Obj) (x : ReadOut ys' g2 l) (n'5 gz'5 : Nat) => hq tk' ep'1 σ' ee' ys' u' io' x)))))))))))))))))))))
end
end Mine

namespace Mine
open PySem PySem.W PySem.W.X
noncomputable section
noncomputable def SrcRd (xs : Array Value) (k : Nat) (l : List (List Str)) (q : List (Nat × Obj)) : Prop := ∃ all : List (List Str), TextsOf xs (all.map (Txt.join (S " "))) ∧ all.drop k = l ∧ ∀ r ∈ all, r ≠ [] ∧ r.length ≤ 60 ∧ ∀ x ∈ r, Pc x
noncomputable def AccRead (ys : Array Value) (l : List (List Str)) (q : List (Nat × Obj)) : Prop := NumsOf ys (l.map fun r => (r.filter nonE).map numOf).flatten ∧ ys.size ≤ l.length * 60
theorem pc_free {x : Str} (h : Pc x) : (32 : Nat) ∉ x.cps.toList ∧ x.length ≤ 100 := by
  rcases h with rfl | ⟨i, rfl⟩
  · exact ⟨by simp, by show 0 ≤ 100; decide⟩
  · obtain ⟨a, b, e, hab, _⟩ := sym_two i
    rw [e]
    refine ⟨fun hc => ?_, by show 2 ≤ 100; decide⟩
    have : 32 = a ∨ 32 = b := by simpa using hc
    omega
theorem srcRd_cons {xs : Array Value} {k : Nat} {x : List Str} {l : List (List Str)} {q : List (Nat × Obj)} (h : SrcRd xs k (x :: l) q) : (∃ t, AtN xs k (.str (Txt.join (S " ") x) t)) ∧ (x ≠ [] ∧ x.length ≤ 60 ∧ ∀ y ∈ x, Pc y) ∧ ∀ q', SrcRd xs (k + 1) l q' := by
  obtain ⟨all, ⟨ts, h1, rfl⟩, h2, h3⟩ := h
  rw [List.length_map] at h1
  have h0 : all[k]? = some x := by
    have : (all.drop k)[0]? = some x := by rw [h2]; rfl
    rwa [List.getElem?_drop, Nat.add_zero] at this
  have hk := (List.getElem?_eq_some_iff.mp h0).1
  refine ⟨⟨ts[k]'(by omega), ?_⟩, h3 x (List.mem_of_getElem? h0), fun q' => ⟨all, ⟨ts, by rw [List.length_map]; exact h1, rfl⟩, by rw [← List.drop_drop (i := 1) (j := k), h2]; rfl, h3⟩⟩
  unfold AtN
  rw [List.getElem?_toArray, List.getElem?_zipWith, List.getElem?_map, h0, List.getElem?_eq_getElem (by omega : k < ts.length)]
  rfl
theorem srcRd_nil {xs : Array Value} {k : Nat} {q : List (Nat × Obj)} (h : SrcRd xs k [] q) : xs.size ≤ k := by
  obtain ⟨all, h1, h2, h3⟩ := h
  rw [h1.size, List.length_map]
  exact List.drop_eq_nil_iff.mp h2
theorem loopR (w : World) (V : Vol) : ∀ (rem : List (List Str)) (F : List String), F = [] ∨ F = ["row", "word"] → ∀ done, CtOk w V (ctL w.params 80 eRead ["row", "word"] F SrcRd AccRead done rem) := ctL_ok w V rfl ⟨_, _, _, _, _, _, _, rfl⟩ (fun _ _ _ h => srcRd_nil h) fun F hF done y rem hC => mkC_ok 80 rfl fun x q gs tk post h n gz => by
  obtain ⟨hsrc0, hacc, hfw0, rfl, hq⟩ := h
  obtain ⟨⟨t1, hat⟩, ⟨hne, hx60, hpc⟩, hsrc⟩ := srcRd_cons hsrc0
  have hfw := few_next hfw0
  have hft : FitsN x.ys y := by
    have h1 := hacc.2
    have h0 : done.length + (rem.length + 1) ≤ 200 := hfw0
    have h2 : done.length * 60 ≤ 200 * 60 := Nat.mul_le_mul_right _ (by omega)
    show x.ys.size + y.length ≤ 50000
    omega
  have hsp : SplitTo (Txt.join (S " ") y) (S " ") y := by
    have e1 : (S " ") = ⟨#[32]⟩ := by decide +kernel
    refine ⟨by rw [e1]; rfl, (fits_of (by decide) (by omega) fun y hy => (pc_free (hpc y hy)).2).2.1, ?_⟩
    rw [e1]
    exact split_join hne fun y hy => (pc_free (hpc y hy)).1
  have hpcs : ∀ {xs2 : Array Value}, TextsOf xs2 y → SrcPcs xs2 0 y := fun {xs2} h => ⟨_, h, rfl, hpc⟩
  have hg : NumsOf x.ys (done.map fun r => (r.filter nonE).map numOf).flatten := hacc.1
  have hac : ∀ (ys' : Array Value) (q : List (Nat × Obj)), ReadOut ys' (done.map fun r => (r.filter nonE).map numOf).flatten y → AccRead ys' (done ++ [y]) q := fun ys' q h => by
    have h1 := h.size
    have h2 := hacc.2
    have h3 := hacc.1.size
    have h4 := List.length_filter_le nonE y
    refine ⟨?_, ?_⟩
    · rw [List.map_append, List.flatten_append]
      show NumsOf ys' (_ ++ ([(y.filter nonE).map numOf]).flatten)
      rw [List.flatten_cons, List.flatten_nil, List.append_nil]
      exact h
    · rw [List.length_append, List.length_map] at h1
      simp only [List.length_append, List.length_cons, List.length_nil] at h4 hx60 ⊢
      omega
  replace hq : ∀ (tk' ep' : Nat) (ys' : Array Value) (τ' σ' ee' : Nat) (v' u' : Value) (io' : Obj) (nq : List (Nat × Obj)), AccRead ys' (done ++ [y] ++ rem) (nq ++ q) → post (.ok .next) tk' [dcO [eZ w.params "row" τ' v', eZ w.params "word" σ' u'] ee', io', lstO ys' ep', lstO x.xs x.epx] [] [] := fun tk' ep' ys' τ' σ' ee' v' u' io' nq h1 => by
    have z := hq tk' ep' ys' τ' σ' ee' v' u' io' [] (by rw [← drop_app]; exact h1) (Nat.zero_le _)
    rw [frX_cons] at z
    exact z
  generalize (done.map fun r => (r.filter nonE).map numOf).flatten = g at hg hac
  generalize Txt.join (S " ") y = tx at hat hsp
  obtain ⟨y0, y1, rfl⟩ := List.exists_cons_of_ne_nil hne
  obtain ⟨lo, I, A, p, k, qu, cd, fr, ys, ep, xs, epx, τ, v, τ2, v2, ee⟩ := x
  rcases hF with rfl | rfl
  · exact .go1 sub0 (cC (ctLNext_ok w V (.str tx t1)) <| cC (ctSplitS_ok w V (y0 :: y1)) <| cC (ctS1_ok (ctRd_ok w V (y0 :: y1) g ["row"] (.inl rfl))) <| c1 hC) [3,0,3,2,0,2,1,3,2,2,2,0,2,1,0,6,6,0,6,0,7,2,2,4,0,5,2,4,2,3,4,0,1,2,3] [] [] 0 (by kernel_rfl) (by kernel_rfl) (ai (r7 [I,I]) (ai (rf (lnC ((I, p, k, { cls := Value.type "list", data := Data.seq xs epx })))) (ai (rf true) (ai hat (fun (n' gz' : Nat) => ai (r7 [lo,lo,lo]) (ai (rf (ssC ((tx, t1, S " ", tk + 1)))) (ai hsp (fun (n1 tk' : Nat) (xs1 : Array Value) (x : TextsOf xs1 (y0 :: y1)) (n'1 gz'1 : Nat) => ai (r7 [n'1,n1,n1,n1]) (ai (ai (rf (n'1 + 247)) (ai (rf true) (rf true))) (ai (rf (inC w.params ["row"] ⟨lo, n'1, A, n1, 0, qu, cd, fr, ys, ep, xs1, 0, tk, Value.str tx t1, 0, Value.none, ee + 1⟩)) (ai (hpcs x) (ai hg (ai hft (ai (rf ([] : List (Nat × Code))) (fun (tk'1 ep' σ' ee' : Nat) (ys' : Array Value) (u' : Value) (io' : Obj) (x1 : ReadOut ys' g (y0 :: y1)) (n'2 gz'2 : Nat) => ai (r7 []) (ai (rf (lxC w.params ((((Expr.Name (Str.ofString "EXACT_TOKEN_TYPES") { line := 217, col := 12, endLine := 217, endCol := 29 }).Attribute (Str.ofString "get") { line := 217, col := 12, endLine := 217, endCol := 33 }).Call [Expr.Name (Str.ofString "word") { line := 217, col := 34, endLine := 217, endCol := 38 }, (Expr.Constant (Const.int 256) 0 { line := 217, col := 40, endLine := 217, endCol := 43 }).BinOp Operator.Add (((Expr.Constant (Const.str (Str.ofString "01234")) 0 { line := 217, col := 46, endLine := 217, endCol := 53 }).Attribute (Str.ofString "find") { line := 217, col := 46, endLine := 217, endCol := 58 }).Call [(Expr.Name (Str.ofString "word") { line := 217, col := 59, endLine := 217, endCol := 63 }).Subscript (Expr.Slice (some (Expr.Constant (Const.int 1) 0 { line := 217, col := 64, endLine := 217, endCol := 65 })) none none { line := 217, col := 64, endLine := 217, endCol := 66 }) { line := 217, col := 59, endLine := 217, endCol := 67 }] [] { line := 217, col := 46, endLine := 217, endCol := 68 }) { line := 217, col := 40, endLine := 217, endCol := 68 }] [] { line := 217, col := 12, endLine := 217, endCol := 69 }).ListComp [{ target := Expr.Name (Str.ofString "row") { line := 217, col := 74, endLine := 217, endCol := 77 }, iter := Expr.Name (Str.ofString "rows") { line := 217, col := 81, endLine := 217, endCol := 85 }, ifs := [], is_async := 0 }, { target := Expr.Name (Str.ofString "word") { line := 217, col := 90, endLine := 217, endCol := 94 }, iter := ((Expr.Name (Str.ofString "row") { line := 217, col := 98, endLine := 217, endCol := 101 }).Attribute (Str.ofString "split") { line := 217, col := 98, endLine := 217, endCol := 107 }).Call [Expr.Constant (Const.str (Str.ofString " ")) 0 { line := 217, col := 108, endLine := 217, endCol := 111 }] [] { line := 217, col := 98, endLine := 217, endCol := 112 }, ifs := [(Expr.Name (Str.ofString "word") { line := 217, col := 116, endLine := 217, endCol := 120 }).Compare [CmpOp.NotEq] [Expr.Constant (Const.str (Str.ofString "")) 0 { line := 217, col := 124, endLine := 217, endCol := 126 }] { line := 217, col := 116, endLine := 217, endCol := 126 }], is_async := 0 }] { kind := ScopeKind.function, names := [(Str.ofString ".0", NameKind.local), (Str.ofString "row", NameKind.local), (Str.ofString "word", NameKind.local), (Str.ofString "EXACT_TOKEN_TYPES", NameKind.globalImplicit)], isGenerator := false, isCoroutine := false } { line := 217, col := 11, endLine := 217, endCol := 127 }) ["row", "word"] ⟨lo, I, A, p, k + 1, qu, cd, fr, ys', ep', xs, epx, tk, Value.str tx t1, σ', u', ee'⟩)) (ai (hsrc q) (ai (hac ys' q x1) (ai hfw (ai (rf ([] : List (Nat × Code))) (fun (tk'2 ep'1 : Nat) (ys'1 : Array Value) (τ' σ'1 ee'1 : Nat) (v' u'1 : Value) (io'1 : Obj) (nq : List (Nat × Obj)) (x2 : AccRead ys'1 (done ++ [y0 :: y1] ++ rem) (nq ++ q)) (x3 : FewQ nq rem) (n'3 gz'3 : Nat) => hq tk'2 ep'1 ys'1 τ' σ'1 ee'1 v' u'1 io'1 nq x2)))))))))))))))))))))
  · exact .go1 sub0 (cC (ctLNext_ok w V (.str tx t1)) <| cC (ctSplitS_ok w V (y0 :: y1)) <| cC (ctS1_ok (ctRd_ok w V (y0 :: y1) g ["row", "word"] (.inr rfl))) <| c1 hC) [3,0,3,2,0,2,1,3,2,2,2,0,2,1,0,6,6,0,6,0,7,2,2,4,0,5,2,4,2,3,4,0,1,2,3] [] [] 0 (by kernel_rfl) (by kernel_rfl) (ai (r7 [I,I]) (ai (rf (lnC ((I, p, k, { cls := Value.type "list", data := Data.seq xs epx })))) (ai (rf true) (ai hat (fun (n' gz' : Nat) => ai (r7 [lo,lo,lo]) (ai (rf (ssC ((tx, t1, S " ", tk + 1)))) (ai hsp (fun (n1 tk' : Nat) (xs1 : Array Value) (x : TextsOf xs1 (y0 :: y1)) (n'1 gz'1 : Nat) => ai (r7 [n'1,n1,n1,n1]) (ai (ai (rf (n'1 + 247)) (ai (rf true) (rf true))) (ai (rf (inC w.params ["row", "word"] ⟨lo, n'1, A, n1, 0, qu, cd, fr, ys, ep, xs1, 0, τ, Value.str tx t1, τ2, v2, ee⟩)) (ai (hpcs x) (ai hg (ai hft (ai (rf ([] : List (Nat × Code))) (fun (tk'1 ep' σ' ee' : Nat) (ys' : Array Value) (u' : Value) (io' : Obj) (x1 : ReadOut ys' g (y0 :: y1)) (n'2 gz'2 : Nat) => ai (r7 []) (ai (rf (lxC w.params ((((Expr.Name (Str.ofString "EXACT_TOKEN_TYPES") { line := 217, col := 12, endLine := 217, endCol := 29 }).Attribute (Str.ofString "get") { line := 217, col := 12, endLine := 217, endCol := 33 }).Call [Expr.Name (Str.ofString "word") { line := 217, col := 34, endLine := 217, endCol := 38 }, (Expr.Constant (Const.int 256) 0 { line := 217, col := 40, endLine := 217, endCol := 43 }).BinOp Operator.Add (((Expr.Constant (Const.str (Str.ofString "01234")) 0 { line := 217, col := 46, endLine := 217, endCol := 53 }).Attribute (Str.ofString "find") { line := 217, col := 46, endLine := 217, endCol := 58 }).Call [(Expr.Name (Str.ofString "word") { line := 217, col := 59, endLine := 217, endCol := 63 }).Subscript (Expr.Slice (some (Expr.Constant (Const.int 1) 0 { line := 217, col := 64, endLine := 217, endCol := 65 })) none none { line := 217, col := 64, endLine := 217, endCol := 66 }) { line := 217, col := 59, endLine := 217, endCol := 67 }] [] { line := 217, col := 46, endLine := 217, endCol := 68 }) { line := 217, col := 40, endLine := 217, endCol := 68 }] [] { line := 217, col := 12, endLine := 217, endCol := 69 }).ListComp [{ target := Expr.Name (Str.ofString "row") { line := 217, col := 74, endLine := 217, endCol := 77 }, iter := Expr.Name (Str.ofString "rows") { line := 217, col := 81, endLine := 217, endCol := 85 }, ifs := [], is_async := 0 }, { target := Expr.Name (Str.ofString "word") { line := 217, col := 90, endLine := 217, endCol := 94 }, iter := ((Expr.Name (Str.ofString "row") { line := 217, col := 98, endLine := 217, endCol := 101 }).Attribute (Str.ofString "split") { line := 217, col := 98, endLine := 217, endCol := 107 }).Call [Expr.Constant (Const.str (Str.ofString " ")) 0 { line := 217, col := 108, endLine := 217, endCol := 111 }] [] { line := 217, col := 98, endLine := 217, endCol := 112 }, ifs := [(Expr.Name (Str.ofString "word") { line := 217, col := 116, endLine := 217, endCol := 120 }).Compare [CmpOp.NotEq] [Expr.Constant (Const.str (Str.ofString "")) 0 { line := 217, col := 124, endLine := 217, endCol := 126 }] { line := 217, col := 116, endLine := 217, endCol := 126 }], is_async := 0 }] { kind := ScopeKind.function, names := [(Str.ofString ".0", NameKind.local), (Str.ofString "row", NameKind.local), (Str.ofString "word", NameKind.local), (Str.ofString "EXACT_TOKEN_TYPES", NameKind.globalImplicit)], isGenerator := false, isCoroutine := false } { line := 217, col := 11, endLine := 217, endCol := 127 }) ["row", "word"] ⟨lo, I, A, p, k + 1, qu, cd, fr, ys', ep', xs, epx, τ, Value.str tx t1, σ', u', ee'⟩)) (ai (hsrc q) (ai (hac ys' q x1) (ai hfw (ai (rf ([] : List (Nat × Code))) (fun (tk'2 ep'1 : Nat) (ys'1 : Array Value) (τ' σ'1 ee'1 : Nat) (v' u'1 : Value) (io'1 : Obj) (nq : List (Nat × Obj)) (x2 : AccRead ys'1 (done ++ [y0 :: y1] ++ rem) (nq ++ q)) (x3 : FewQ nq rem) (n'3 gz'3 : Nat) => hq tk'2 ep'1 ys'1 τ' σ'1 ee'1 v' u'1 io'1 nq x2)))))))))))))))))))))
end
end Mine

namespace Mine
open PySem PySem.W PySem.W.X
noncomputable section
noncomputable def ctT (C : Ct) : Ct := ⟨C.lv, fun c L q gs tk post => k1 L fun p => p.2.isFreed = false ∧ C.pre c [] (p :: q) gs tk fun r tk' L' ns nq => nq = [] ∧ post r tk' (p.2 :: L') ns []⟩
theorem ctT_ok {w : World} {V : Vol} {C : Ct} (hC : CtOk w V C) : CtOk w V (ctT C) := by
  intro c L q gs tk post hp A Q h g d os hr H hQ
  obtain ⟨⟨a, o⟩, rfl, hf, hp⟩ := k1_e hp
  have ho := H.has (a, o) (List.mem_cons_self ..)
  have hap := H.apart (a, o) (List.mem_cons_self ..)
  refine hC _ _ _ _ _ _ hp A Q h g d os hr ⟨H.top, (fun p hp => nomatch hp), List.nodup_nil, (fun p hp => nomatch hp), fun p hp => ?_, H.tv, H.big, H.inv, H.gsk⟩ fun r tk' L' ns nq h' g' hx Af => ?_
  · rcases List.mem_cons.mp hp with rfl | hp
    · exact ⟨ho, by simp, hap.2⟩
    · have := H.gh p hp
      exact ⟨this.1, by simp, this.2.2⟩
  · obtain ⟨hn, hx⟩ := hx
    subst hn
    have hl := Af.len
    have hl' : L' = [] := by simpa using hl
    subst hl'
    refine hQ _ _ _ _ _ _ _ hx ⟨rfl, fun i p o' e1 e2 hf => ?_, Af.new, Af.newd, (fun p hp => nomatch hp), fun b o' e hv hb => Af.keep b o' e hv (by simp), Af.size, Af.inv⟩
    cases i with
    | zero => cases e1; cases e2; exact Af.keep a _ ho hap.2 (by simp)
    | succ i => cases e1
noncomputable def SumOf (xs : Array Value) (z : Int) : Prop := ∃ l, NumsOf xs l ∧ z = l.sum
noncomputable def suL (x : Nat × Array Value × Nat) : Cl := ⟨.builtin "sum" ⟨[.ref (x.1 + 247)], []⟩, [(x.1 + 247, lstO x.2.1 x.2.2)]⟩
noncomputable def ctSumL (z : Int) : Ct := mkC 14 (fun _ L _ => (lA L 0, oSeq (lO L 0), oEp (lO L 0))) suL fun x q gs tk post => SumOf x.2.1 z ∧ ∀ t tk' : Nat, post (.ok (.ret (.int z t))) tk' [lstO x.2.1 x.2.2] [] []
theorem presum_getD (l : List Int) : ∀ j, preSum (fun i => l.getD i 0) j = (l.take j).sum
  | 0 => by simp [preSum]
  | j + 1 => by
    rw [preSum, presum_getD l j, List.take_add_one]
    cases h : l[j]? with
    | none => simp [h]
    | some v => simp [h]
theorem ctSumL_ok (w : World) (V : Vol) (z : Int) : CtOk w V (ctSumL z) := mkC_by fun x q gs tk post hp A Q h g d os hr H hQ => by
  obtain ⟨b, xs, ep⟩ := x
  obtain ⟨⟨l, hn, rfl⟩, hp⟩ := hp
  change NumsOf xs l at hn
  dsimp only [suL] at hQ hp ⊢
  have H : Have w.params V h g [(b + 247, lstO xs ep)] q gs := H
  generalize b + 247 = a' at *
  have ho := H.has _ (List.mem_cons_self ..)
  have hl : h.IsList a' xs := ⟨_, ho, rfl, _, rfl⟩
  have hlt : a' < h.objs.size := Heap.lt_size ho
  refine codeAny_with_size ?_
  refine codeAny_builtin F.entry_sum ?_
  rw [Around.under_plainId F.plain_sum _]
  unfold Builtin.«sum»
  simp only [List.length_cons, List.length_nil]
  rw [if_neg (by decide)]
  refine wpAny_bind (wpAny_of_eq (show Builtin.Builtins.bindParams "sum" ["start"] 0 { } = pure [none] from rfl) ?_)
  refine wpAny_bind (wpAny_pyIter_list (s := ⟨h, g, d, tk, os⟩) hl ?_)
  refine wpAny_bind (wpAny_mkInt ?_)
  refine wpAny_bind (wpAny_pure ?_)
  simp only [List.forIn_cons, List.forIn_nil]
  refine wpAny_bind (wpAny_bind (wpAny_bind (wpAny_isInstance (T := "int") (b := false) (typeIs_int _ _ _) sub_int_str ?_)))
  simp only [Bool.false_eq_true, if_false]
  refine wpAny_pure (wpAny_bind (wpAny_bind (wpAny_isInstance (T := "int") (b := false) (typeIs_int _ _ _) sub_int_bytes ?_)))
  simp only [Bool.false_eq_true, if_false]
  refine wpAny_pure (wpAny_bind (wpAny_bind (wpAny_isInstance (T := "int") (b := false) (typeIs_int _ _ _) sub_int_bytearray ?_)))
  simp only [Bool.false_eq_true, if_false]
  refine wpAny_pure (wpAny_pure ?_)
  refine wpAny_bind (wpAny_newObj_type ?_)
  have hne : a' ≠ h.objs.size := Nat.ne_of_lt hlt
  have W := Walks.list (prog := PW) (w := w) (A := A.in1) hr.hd h.objs.size a' hne xs
  have hs1 : (h.push { cls := .type "list_iterator", data := .fields #[.ref a', .int 0 0] }).objs.size = h.objs.size + 1 := Heap.size_push ..
  have hSf : (h.push { cls := .type "list_iterator", data := .fields #[.ref a', .int 0 0] }).objs.size ∉ [h.objs.size, a'] := fun hm => by
    rw [hs1] at hm
    simp only [List.mem_cons, List.not_mem_nil, or_false] at hm
    omega
  have hval : ∀ i v, xs[i]? = some v → ∃ t, v = Value.int ((fun i => l.getD i 0) i) t := fun i v hv => by
    obtain ⟨ts, h1, rfl⟩ := hn
    rw [List.getElem?_toArray, List.getElem?_zipWith] at hv
    cases h2 : l[i]? with
    | none => rw [h2] at hv; cases hv
    | some x =>
      rw [h2] at hv
      cases h3 : ts[i]? with
      | none => rw [h3] at hv; cases hv
      | some t =>
        rw [h3] at hv
        cases hv
        exact ⟨t, by show Value.int x t = Value.int (l.getD i 0) t; rw [List.getD_eq_getElem?_getD, h2]; rfl⟩
  refine wpAny_pure ⟨plainId_quiet F.plain_sum_loop _, codeAny_sum_loopG W (fun i => l.getD i 0) hval _ hSf xs.size 0 _ tk 0 0 (Or.inl rfl) rfl (Nat.zero_le _)
    ⟨⟨_, Heap.get?_push_of_some _ (Heap.get?_push_size _ rfl), rfl, rfl⟩, ⟨_, Heap.get?_push_of_some _ (Heap.get?_push_of_some _ ho), rfl, _, rfl⟩⟩ (Heap.get?_push_size _ rfl) fun h' tk' t' hk hsz => ?_⟩
  have hold : ∀ b o, h.get? b = some o → h'.get? b = some o := fun b o e => by
    have hb := Heap.lt_size e
    refine hk b o (fun hm => absurd (List.mem_singleton.mp hm) (Nat.ne_of_lt hb)) (fun hm => absurd (hm.trans hs1) (Nat.ne_of_lt (Nat.lt_succ_of_lt hb))) (Heap.get?_push_of_some _ (Heap.get?_push_of_some _ e))
  have hsum : preSum (fun i => l.getD i 0) xs.size = l.sum := by
    rw [presum_getD, hn.size, List.take_length]
  rw [hsum]
  refine hQ _ _ _ _ _ _ _ (hp t' tk') ⟨rfl, fun i p o' e1 e2 _ => ?_, (fun p hp => nomatch hp), List.nodup_nil, (fun p hp => nomatch hp), fun b o' e _ _ => hold b o' e, hsz, H.inv.same fun b _ o' e => hold b o' e⟩
  cases i with
  | zero => cases e1; cases e2; exact hold _ _ ho
  | succ i => cases e1
noncomputable def ModTo (a b : Int) (k : Nat) : Prop := 0 < b ∧ a % b = Int.ofNat k
noncomputable def ctModA (k : Nat) : Ct := ctInt 116512097088030077292474218 fun l X => kII l fun x y => ModTo x y k ∧ X (Int.ofNat k)
theorem ctModA_ok (w : World) (V : Vol) (k : Nat) : CtOk w V (ctModA k) := ctInt_ok w V (s := "int.__mod__") (by decide +kernel) (by decide +kernel) PySem.F.entry_int_mod fun l X h => by
  obtain ⟨a, t, b, u, rfl, ⟨hn, hk⟩, h2⟩ := kII_e h
  have z := AutoIntG6.int___mod___int_int_1 a t b u (by simp; omega)
  rw [Int.fmod_eq_emod_of_nonneg a (Int.le_of_lt hn), hk] at z
  exact ⟨_, z, h2⟩
noncomputable def Alike (xs ys : Array Value) : Prop := (∃ l, TextsOf xs l ∧ TextsOf ys l) ∨ ∃ l, NumsOf xs l ∧ NumsOf ys l
theorem alike_eq {xs ys : Array Value} (h : Alike xs ys) (A : Around) (s : Shared) : xs.size = ys.size ∧ ∀ j (h1 : j < xs.size) (h2 : j < ys.size), PySem.SeqAt.EqAt A s xs[j] ys[j] true := by
  rcases h with ⟨l, ⟨ts, h1, rfl⟩, ⟨us, h2, rfl⟩⟩ | ⟨l, ⟨ts, h1, rfl⟩, ⟨us, h2, rfl⟩⟩
  · refine ⟨by simp [h1, h2], fun j h3 h4 => ?_⟩
    simp only [List.getElem_toArray, List.getElem_zipWith]
    exact fun prog w E Q hq => wpAny_eqBool_str (by simpa using hq)
  · refine ⟨by simp [h1, h2], fun j h3 h4 => ?_⟩
    simp only [List.getElem_toArray, List.getElem_zipWith]
    exact fun prog w E Q hq => wpAny_eqBool_int (by simpa using hq)
noncomputable def twC (id : String) (x : Nat × Array Value × Nat × Nat × Array Value × Nat) : Cl := ⟨.builtin id ⟨[.ref (x.1 + 247), .ref (x.2.2.2.1 + 247)], []⟩, [(x.1 + 247, lstO x.2.1 x.2.2.1), (x.2.2.2.1 + 247, lstO x.2.2.2.2.1 x.2.2.2.2.2)]⟩
noncomputable def twS (L : List (Nat × Obj)) : Nat × Array Value × Nat × Nat × Array Value × Nat := (lA L 0, oSeq (lO L 0), oEp (lO L 0), lA L 1, oSeq (lO L 1), oEp (lO L 1))
noncomputable def ctLNe : Ct := mkC 4 (fun _ L _ => twS L) (twC "list.__ne__") fun x q gs tk post => Alike x.2.1 x.2.2.2.2.1 ∧ post (.ok (.ret (.bool false))) tk [lstO x.2.1 x.2.2.1, lstO x.2.2.2.2.1 x.2.2.2.2.2] [] []
theorem ctLNe_ok (w : World) (V : Vol) : CtOk w V ctLNe := mkC_by fun x q gs tk post hp A Q h g d os hr H hQ => by
  obtain ⟨a, xs, ep, b, ys, ep2⟩ := x
  obtain ⟨hal, hp⟩ := hp
  have ho := H.has _ (List.mem_cons_self ..)
  have ho2 := H.has _ (List.mem_cons_of_mem _ (List.mem_cons_self ..))
  refine codeAny_builtin PySem.F.entry_list_ne ?_
  rw [Around.under_plainId (by decide +kernel) _]
  obtain ⟨hsz, he⟩ := alike_eq hal A.in1 ⟨h, g, d, tk, os⟩
  refine PySem.SeqAt.list_neAt (a + 247) (b + 247) xs ys ep ep2 none none #[] #[] hsz (fun _ => true) PW w A Q _ ⟨ho, ho2, he, ?_⟩
  have : (!(List.range xs.size).all fun _ => true) = false := by simp
  rw [this]
  exact hQ _ _ _ _ _ _ _ hp H.same
noncomputable def AlikeB (xs ys : Array Value) (q : List (Nat × Obj)) : Prop := ∃ l, BoolsOf xs.toList l q ∧ BoolsOf ys.toList l q
noncomputable def ctEqB : Ct := mkC 4 (fun _ L _ => twS L) (twC "list.__eq__") fun x q gs tk post => AlikeB x.2.1 x.2.2.2.2.1 q ∧ post (.ok (.ret (.bool true))) tk [lstO x.2.1 x.2.2.1, lstO x.2.2.2.2.1 x.2.2.2.2.2] [] []
theorem bools_at {q : List (Nat × Obj)} : ∀ {vs : List Value} {l : List (Bool × Bool)}, BoolsOf vs l q → ∀ j (h : j < vs.length) (h2 : j < l.length), ∃ a ep, vs[j] = .ref a ∧ (a, lstO #[.bool l[j].1, .bool l[j].2] ep) ∈ q
  | .ref a :: vs, x :: l, ⟨⟨ep, h1⟩, h3, h4⟩, 0, _, _ => ⟨a, ep, rfl, h1⟩
  | .ref a :: vs, x :: l, ⟨⟨ep, h1⟩, h3, h4⟩, j + 1, h, h2 => bools_at h4 j (Nat.lt_of_succ_lt_succ h) (Nat.lt_of_succ_lt_succ h2)
theorem ctEqB_ok (w : World) (V : Vol) : CtOk w V ctEqB := mkC_by fun x q gs tk post hp A Q h g d os hr H hQ => by
  obtain ⟨a', xs, ep, b', ys, ep2⟩ := x
  obtain ⟨⟨l, hx, hy⟩, hp⟩ := hp
  change BoolsOf xs.toList l q at hx
  change BoolsOf ys.toList l q at hy
  have ho := H.has _ (List.mem_cons_self ..)
  have ho2 := H.has _ (List.mem_cons_of_mem _ (List.mem_cons_self ..))
  have l1 := hx.length
  have l2 := hy.length
  rw [Array.length_toList] at l1 l2
  refine codeAny_builtin PySem.F.entry_list_eq ?_
  rw [Around.under_plainId (by decide +kernel) _]
  refine PySem.SeqAt.list_eqAt (a' + 247) (b' + 247) xs ys ep ep2 none none #[] #[] (by omega) (fun _ => true) PW w A Q _ ⟨ho, ho2, fun j h1 h2 => ?_, ?_⟩
  · obtain ⟨a, e, e3, m3⟩ := bools_at hx j (by rw [Array.length_toList]; exact h1) (by omega)
    obtain ⟨b, e', e4, m4⟩ := bools_at hy j (by rw [Array.length_toList]; exact h2) (by omega)
    rw [Array.getElem_toList] at e3 e4
    rw [e3, e4]
    have r1 : Reads h (.ref a) (.list [.bool l[j].1, .bool l[j].2]) _ := .list (H.gh _ m3).1 rfl rfl (.cons (.bool _) (.cons (.bool _) .nil))
    have r2 : Reads h (.ref b) (.list [.bool l[j].1, .bool l[j].2]) _ := .list (H.gh _ m4).1 rfl rfl (.cons (.bool _) (.cons (.bool _) .nil))
    have z := PySem.SeqAt.eqAt_reads _ _ A.in1 ⟨h, g, d, tk, os⟩ _ _ _ _ r1 r2 rfl rfl (by
      have h3 : (PyData.list [.bool l[j].1, .bool l[j].2]).depth ≤ 10 := by show _ ≤ _; simp [PyData.depth, PyData.depthAll]
      have h4 : A.in1.units = A.units + 1 := rfl
      have h5 := hr.units
      have : cLine = 9900 := rfl
      omega)
    have ev : PyData.eqv (.list [.bool l[j].1, .bool l[j].2]) (.list [.bool l[j].1, .bool l[j].2]) = true := by
      cases l[j].1 <;> cases l[j].2 <;> rfl
    rw [ev] at z
    exact z
  · have : ((List.range xs.size).all fun _ => true) = true := by simp
    rw [this]
    exact hQ _ _ _ _ _ _ _ hp H.same
end
end Mine

namespace Mine
open PySem PySem.W PySem.W.X
theorem nums_cut {ws : Array Value} {l : List Int} {z : Array Value} {lo hi : Option Int} (h : NumsOf ws l) (hz : SliceOf ws lo hi z) :
    NumsOf z ((l.drop (lo.elim 0 (clipAt l.length))).take (hi.elim l.length (clipAt l.length) - lo.elim 0 (clipAt l.length))) := by
  unfold SliceOf at hz
  rw [slicePick_plain, h.size] at hz
  rw [hz]
  obtain ⟨ts, h1, rfl⟩ := h
  refine ⟨(ts.drop (lo.elim 0 (clipAt l.length))).take (hi.elim l.length (clipAt l.length) - lo.elim 0 (clipAt l.length)), by simp [h1], ?_⟩
  congr 1
  rw [List.toList_toArray, List.drop_zipWith, List.take_zipWith]
theorem clip_min (n k : Nat) : clipAt n (Int.ofNat k) = min k n := by
  unfold clipAt
  have : ¬ (Int.ofNat k < 0) := by show ¬ ((k : Int) < 0); omega
  simp only [this, if_false]
  show (max 0 (min (k : Int) (n : Int))).toNat = min k n
  omega
theorem take_min {α : Type} (l : List α) (k : Nat) : l.take (min k l.length) = l.take k := by
  rw [List.take_eq_take_iff]
  simp
theorem nums_upto {ws : Array Value} {l : List Int} {z : Array Value} {k : Nat} (h : NumsOf ws l) (hz : SliceOf ws none (some (Int.ofNat k)) z) : NumsOf z (l.take k) := by
  have := nums_cut h hz
  simp only [Option.elim, List.drop_zero, Nat.sub_zero, clip_min, take_min] at this
  exact this
theorem nums_run {ws : Array Value} {l : List Int} {z : Array Value} {a b : Nat} (hab : a ≤ b) (h : NumsOf ws l) (hz : SliceOf ws (some (Int.ofNat a)) (some (Int.ofNat b)) z) : NumsOf z ((l.drop a).take (b - a)) := by
  have := nums_cut h hz
  simp only [Option.elim, clip_min] at this
  have e1 : l.drop (min a l.length) = l.drop a := by
    by_cases h : a ≤ l.length
    · rw [Nat.min_eq_left h]
    · rw [Nat.min_eq_right (by omega), List.drop_eq_nil_of_le (Nat.le_refl _), List.drop_eq_nil_of_le (by omega)]
  rw [e1] at this
  have e2 : (l.drop a).take (min b l.length - min a l.length) = (l.drop a).take (b - a) := by
    rw [List.take_eq_take_iff, List.length_drop]
    omega
  rwa [e2] at this
theorem nums_cat {xs ys zz : Array Value} {l m : List Int} (h1 : NumsOf xs l) (h2 : NumsOf ys m) (h : CatOf xs ys zz) : NumsOf zz (l ++ m) := by
  unfold CatOf at h
  subst h
  obtain ⟨ts, a1, rfl⟩ := h1
  obtain ⟨us, a2, rfl⟩ := h2
  refine ⟨ts ++ us, by simp [a1, a2], ?_⟩
  rw [List.zipWith_append a1.symm]
  simp
noncomputable def xsOf (sc : List Int) : List Int := (sc.drop 2).take 4 ++ [0, 6, 4, 17, 19, 15, 1, 5, 9, 20]
noncomputable def wsOf2 (sc : List Int) : List Str := (xsOf sc).map fun x => (symOf x).2
noncomputable def nsOf (sc : List Int) : List Int := (xsOf sc).map fun x => (symOf x).1
noncomputable def hdOf (sc : List Int) : Nat := 1 + ((3 + (sc.take 1).sum) % 12).toNat
noncomputable def mxOf (sc : List Int) : Nat := 11 + (((sc.drop 1).take 1).sum % 10).toNat
noncomputable def mkOf (sc : List Int) : List Nat := [[61], [62], [42, 61], [47, 60]].getD ((sc.take 2).sum % 4).toNat []
noncomputable def rowsL (sc : List Int) : List (List Str) := rowsGo ((wsOf2 sc).length + 1) (mkOf sc) (mxOf sc) ((mxOf sc + 1 - hdOf sc) / 3) (wsOf2 sc)
theorem mod_is (a b : Int) (hb : 0 < b) : ModTo a b (a % b).toNat ∧ (a % b).toNat < b.toNat := by
  have h1 := Int.emod_nonneg a (Int.ne_of_gt hb)
  have h2 := Int.emod_lt_of_pos a hb
  refine ⟨⟨hb, ?_⟩, by omega⟩
  show a % b = (((a % b).toNat : Nat) : Int)
  omega
theorem hd_b (sc : List Int) : 0 < hdOf sc ∧ hdOf sc ≤ 12 := by
  have := (mod_is (3 + (sc.take 1).sum) 12 (by decide)).2
  unfold hdOf
  have e : (12 : Int).toNat = 12 := rfl
  omega
theorem mx_b (sc : List Int) : 11 ≤ mxOf sc ∧ mxOf sc ≤ 20 := by
  have := (mod_is ((sc.drop 1).take 1).sum 10 (by decide)).2
  unfold mxOf
  have e : (10 : Int).toNat = 10 := rfl
  omega
theorem mk_ok (sc : List Int) : MOk (mkOf sc) := by
  have h := (mod_is (sc.take 2).sum 4 (by decide)).2
  have e : (4 : Int).toNat = 4 := rfl
  unfold mkOf
  generalize ((sc.take 2).sum % 4).toNat = k at h
  have : k = 0 ∨ k = 1 ∨ k = 2 ∨ k = 3 := by omega
  rcases this with rfl | rfl | rfl | rfl
  · exact ⟨⟨61, .inl rfl⟩, by decide +kernel⟩
  · exact ⟨⟨62, .inl rfl⟩, by decide +kernel⟩
  · exact ⟨⟨42, .inr ⟨61, rfl⟩⟩, by decide +kernel⟩
  · exact ⟨⟨47, .inr ⟨60, rfl⟩⟩, by decide +kernel⟩
theorem xs_len (sc : List Int) : 10 ≤ (xsOf sc).length ∧ (xsOf sc).length ≤ 14 := by
  unfold xsOf
  rw [List.length_append, List.length_take]
  show 10 ≤ _ + 10 ∧ _ + 10 ≤ 14
  omega
theorem ws_len (sc : List Int) : (wsOf2 sc).length = (xsOf sc).length := by unfold wsOf2; rw [List.length_map]
theorem ws_ok (sc : List Int) : 10 ≤ (wsOf2 sc).length ∧ (wsOf2 sc).length ≤ 14 ∧ ∀ x ∈ wsOf2 sc, WvOk x := by
  have := xs_len sc
  refine ⟨by rw [ws_len]; exact this.1, by rw [ws_len]; exact this.2, fun x hx => ?_⟩
  obtain ⟨i, _, rfl⟩ := List.mem_map.mp hx
  obtain ⟨a, b, e, h, _⟩ := sym_two i
  exact ⟨a, b, e, ⟨h.1, h.2.1⟩, h.2.2⟩
theorem ws_two (sc : List Int) : ∀ x ∈ wsOf2 sc, ∃ a b, x = ⟨#[a, b]⟩ := fun x hx => by
  obtain ⟨a, b, e, _⟩ := (ws_ok sc).2.2 x hx
  exact ⟨a, b, e⟩
theorem fold_is (sc : List Int) : foldOf (hdOf sc) (mxOf sc) (mkOf sc) (wsOf2 sc) = rend (rowsL sc) := by
  have h1 := hd_b sc
  have h2 := mx_b sc
  refine fold_rows (by omega) h1.1 (fun e => ?_) (fun x hx => ?_) _ (Nat.lt_succ_self _)
  · have := ws_len sc
    have h3 := xs_len sc
    rw [e] at this
    simp only [List.length_nil] at this
    omega
  · obtain ⟨a, b, e⟩ := ws_two sc x hx
    rw [e]
    rfl
noncomputable def pcs0 (r : List Str) : List Str := match r with
  | [] => [⟨#[]⟩]
  | _ => r
noncomputable def pcsOf (sc : List Int) : List (List Str) := match rowsL sc with
  | [] => []
  | r :: rs => pcs0 r :: rs.map fun r => ⟨#[]⟩ :: r
theorem rendB_join (r : List Str) : rendB r = Txt.join (S " ") (⟨#[]⟩ :: r) := by
  refine str_ext ?_
  unfold rendB
  rw [show Txt.join Str.empty (r.map fun x => S " " ++ x) = Str.join Str.empty (r.map fun x => S " " ++ x) from StrLaws.glued_eq_join _ _, show Txt.join (S " ") (⟨#[]⟩ :: r) = Str.join (S " ") (⟨#[]⟩ :: r) from StrLaws.glued_eq_join _ _, join_empty_toList]
  have key : ∀ (r : List Str) (x : Str), (Str.join (S " ") (x :: r)).cps.toList = x.cps.toList ++ ((r.map fun x => S " " ++ x).map fun x => x.cps.toList).flatten := by
    intro r
    induction r with
    | nil => intro x; simp [Str.join]
    | cons y r ih =>
      intro x
      rw [join_cons2, ih y]
      simp only [List.map_cons, List.flatten_cons]
      show x.cps.toList ++ ((S " ").cps.toList ++ (y.cps.toList ++ _)) = x.cps.toList ++ (((S " ").cps ++ y.cps).toList ++ _)
      simp
  rw [key]
  simp
theorem join_pcs0 (r : List Str) : Txt.join (S " ") r = Txt.join (S " ") (pcs0 r) := by
  cases r with
  | nil => rfl
  | cons x r => rfl
theorem rend_pcs (sc : List Int) : rend (rowsL sc) = (pcsOf sc).map (Txt.join (S " ")) := by
  unfold pcsOf
  cases h : rowsL sc with
  | nil => rfl
  | cons r rs =>
    show Txt.join (S " ") r :: rs.map rendB = _
    rw [List.map_cons, ← join_pcs0, List.map_map]
    congr 1
    apply List.map_congr_left
    intro r _
    exact rendB_join r
theorem rows_flat {M : List Nat} {mx : Nat} : ∀ (f room : Nat) (l : List Str), (rowsGo f M mx room l).flatten = l
  | 0, _, l => by simp [rowsGo]
  | f + 1, room, l => by
    unfold rowsGo
    split
    · rw [List.flatten_cons, rows_flat f, List.take_append_drop]
    · simp
theorem non_word {sc : List Int} {x : Str} (h : x ∈ wsOf2 sc) : nonE x = true := by
  obtain ⟨a, b, e⟩ := ws_two sc x h
  rw [e]
  rfl
theorem read_is (sc : List Int) : ((pcsOf sc).map fun r => (r.filter nonE).map numOf).flatten = nsOf sc := by
  have hin : ∀ r ∈ rowsL sc, ∀ x ∈ r, x ∈ wsOf2 sc := fun r hr => (rowsGo_le _ _ _ r hr).2
  have hf : (rowsL sc).flatten = wsOf2 sc := rows_flat _ _ _
  have hfil : ∀ r ∈ rowsL sc, r.filter nonE = r := fun r hr => List.filter_eq_self.mpr fun x hx => non_word (hin r hr x hx)
  have e1 : ((pcsOf sc).map fun r => (r.filter nonE).map numOf) = (rowsL sc).map fun r => r.map numOf := by
    unfold pcsOf
    cases h : rowsL sc with
    | nil => rfl
    | cons r rs =>
      rw [h] at hfil
      show (((pcs0 r).filter nonE).map numOf) :: (rs.map fun r => (⟨#[]⟩ : Str) :: r).map (fun r => (r.filter nonE).map numOf) = r.map numOf :: rs.map fun r => r.map numOf
      have h0 : (pcs0 r).filter nonE = r := by
        cases r with
        | nil => rfl
        | cons x r => exact hfil _ (List.mem_cons_self ..)
      rw [h0, List.map_map]
      congr 1
      apply List.map_congr_left
      intro r hr
      show ((((⟨#[]⟩ : Str) :: r).filter nonE).map numOf) = r.map numOf
      have : ((⟨#[]⟩ : Str) :: r).filter nonE = r.filter nonE := rfl
      rw [this, hfil r (List.mem_cons_of_mem _ hr)]
  rw [e1]
  have e2 : ((rowsL sc).map fun r => r.map numOf).flatten = ((rowsL sc).flatten).map numOf := by rw [List.map_flatten]
  rw [e2, hf]
  unfold wsOf2 nsOf
  rw [List.map_map]
  apply List.map_congr_left
  intro x _
  exact num_of x
theorem pcs_ok (sc : List Int) : ∀ r ∈ pcsOf sc, r ≠ [] ∧ r.length ≤ 60 ∧ ∀ x ∈ r, Pc x := by
  have hin : ∀ r ∈ rowsL sc, ∀ x ∈ r, x ∈ wsOf2 sc := fun r hr => (rowsGo_le _ _ _ r hr).2
  have hlen : ∀ r ∈ rowsL sc, r.length ≤ 14 := fun r hr => by
    have := (rowsGo_le _ _ _ r hr).1
    have h1 := ws_len sc
    have h2 := xs_len sc
    omega
  have hpc : ∀ x ∈ wsOf2 sc, Pc x := fun x hx => by
    obtain ⟨i, _, rfl⟩ := List.mem_map.mp hx
    exact .inr ⟨i, rfl⟩
  intro r hr
  unfold pcsOf at hr
  cases h : rowsL sc with
  | nil => rw [h] at hr; cases hr
  | cons r0 rs =>
    rw [h] at hr hin hlen
    rcases List.mem_cons.mp hr with rfl | hr
    · have h1 := hlen r0 (List.mem_cons_self ..)
      have h2 := hin r0 (List.mem_cons_self ..)
      cases r0 with
      | nil => exact ⟨by simp [pcs0], by show 1 ≤ 60; decide, fun x hx => .inl (List.mem_singleton.mp hx)⟩
      | cons y r0 => exact ⟨by simp [pcs0], by show (y :: r0).length ≤ 60; omega, fun x hx => hpc x (h2 x hx)⟩
    · obtain ⟨r1, hr1, rfl⟩ := List.mem_map.mp hr
      have h1 := hlen r1 (List.mem_cons_of_mem _ hr1)
      have h2 := hin r1 (List.mem_cons_of_mem _ hr1)
      refine ⟨by simp, by rw [List.length_cons]; omega, fun x hx => ?_⟩
      rcases List.mem_cons.mp hx with rfl | hx
      · exact .inl rfl
      · exact hpc x (h2 x hx)
theorem pcs_len (sc : List Int) : (pcsOf sc).length ≤ 20 ∧ pcsOf sc ≠ [] := by
  have h := rowsGo_len (M := mkOf sc) (mx := mxOf sc) ((wsOf2 sc).length + 1) ((mxOf sc + 1 - hdOf sc) / 3) (wsOf2 sc)
  have h1 := ws_len sc
  have h2 := xs_len sc
  have hne : rowsL sc ≠ [] := by
    unfold rowsL rowsGo
    split <;> simp
  unfold pcsOf
  have h3 : (rowsL sc).length ≤ 16 := by unfold rowsL; omega
  cases e : rowsL sc with
  | nil => exact absurd e hne
  | cons r rs =>
    rw [e] at h3
    simp only [List.length_cons] at h3
    exact ⟨by simp only [List.length_cons, List.length_map]; omega, by simp⟩
theorem kind_tab : ∀ k : Fin 24, isT (symTab.getD k.val (0, ⟨#[]⟩)).1 = !isN (symTab.getD k.val (0, ⟨#[]⟩)).2 := by decide +kernel
theorem kind_of (i : Int) : isT (symOf i).1 = !isN (symOf i).2 := by
  obtain ⟨hlt, _⟩ := sym_lt i
  unfold symOf
  exact kind_tab ⟨_, hlt⟩
theorem kinds_is (sc : List Int) : (nsOf sc).map (fun n => (isT n, isT n)) = (wsOf2 sc).map fun x => (!isN x, !isN x) := by
  unfold nsOf wsOf2
  rw [List.map_map, List.map_map]
  apply List.map_congr_left
  intro x _
  show (isT (symOf x).1, isT (symOf x).1) = _
  rw [kind_of x]
  rfl
theorem oths_is (sc : List Int) : (nsOf sc).map (fun n => (!isT n, !isT n)) = (wsOf2 sc).map fun x => (isN x, isN x) := by
  unfold nsOf wsOf2
  rw [List.map_map, List.map_map]
  apply List.map_congr_left
  intro x _
  show (!isT (symOf x).1, !isT (symOf x).1) = _
  rw [kind_of x]
  show (!!isN (symOf x).2, !!isN (symOf x).2) = (isN (symOf x).2, isN (symOf x).2)
  rw [Bool.not_not]
end Mine

namespace Mine
open PySem PySem.W PySem.W.X
noncomputable section
noncomputable def lwC (x : Array Value × Nat) : Cl := ⟨.call (.ref 245) ⟨[.ref 246], []⟩, [(246, lstO x.1 x.2), (230, tb0)]⟩
theorem lwRun (w : World) {q : List (Nat × Obj)} {tk n gz ep : Nat} {xs : Array Value} {post : Post} {x0 n0 : Int} {X N : List Int} {w0 : Str} {W ws rows : List Str} {p0 : List Str} {ps : List (List Str)} {M : List Nat} {tx : Str} {s1 s2 s3 : Int} {k1 k2 k3 : Nat}
    (cF : CtOk w V0 (ctFolded (1 + k1) (11 + k2) M ws rows)) (cR : CtOk w V0 (ctRowsQ (1 + k1) (11 + k2) M ws rows))
    (hsx : SzLe xs 1000) (hz1 : ∀ z, SliceOf xs (some 2) (some 6) z → SzLe z 1000) (hsrc : ∀ (z zz : Array Value) (t0 t1 t2 t3 t4 t5 t6 t7 t8 t9 : Nat) (q' : List (Nat × Obj)), SliceOf xs (some 2) (some 6) z → CatOf z #[.int 0 t0, .int 6 t1, .int 4 t2, .int 17 t3, .int 19 t4, .int 15 t5, .int 1 t6, .int 5 t7, .int 9 t8, .int 20 t9] zz → SrcInts zz 0 (x0 :: X) q')
    (hfX : Few ([] : List Int) (x0 :: X)) (hfW : Few ([] : List Str) (w0 :: W)) (hfN : Few ([] : List Int) (n0 :: N)) (hfP : Few ([] : List (List Str)) (p0 :: ps))
    (hs1 : ∀ z, SliceOf xs none (some 1) z → SumOf z s1) (hs2 : ∀ z, SliceOf xs (some 1) (some 2) z → SumOf z s2) (hs3 : ∀ z, SliceOf xs none (some 2) z → SumOf z s3)
    (hk1 : ModTo (3 + s1) 12 k1) (hk2 : ModTo s2 10 k2) (hk3 : ModTo s3 4 k3) (hi0 : 0 ≤ Int.ofNat k3) (hi1 : Int.ofNat k3 < 1000000) (hmk : ∀ t0 t1 t2 t3 : Nat, AtS #[.str (S "=") t0, .str (S ">") t1, .str (S "*=") t2, .str (S "/<") t3] (Int.ofNat k3) ⟨M.toArray⟩)
    (hwt : ∀ ys q', AccWords ys ([] ++ (x0 :: X)) q' → TextsOf ys ws) (hjt : JoinTo (S " ") ws tx) (hfo : FoIn (1 + k1) M ws tx ⟨M.toArray⟩)
    (hrd : ∀ ys q', TextsOf ys rows → SrcRd ys 0 (p0 :: ps) q') (hwi : ∀ (a : Nat) ys ep q1 q2, AccWords ys ([] ++ (x0 :: X)) q1 → WhIn (a + 247) ws ((a + 247, lstO ys ep) :: q2))
    (hal : ∀ ys ys', TextsOf ys rows → TextsOf ys' rows → Alike ys ys') (hal2 : ∀ ys q1 ys' q2, AccRead ys ([] ++ (p0 :: ps)) q1 → AccNums ys' ([] ++ (x0 :: X)) q2 → Alike ys ys')
    (hki : ∀ ys q1 q2, AccRead ys ([] ++ (p0 :: ps)) q1 → SrcInts ys 0 (n0 :: N) q2) (hte : ∀ ys q1 q2, AccWords ys ([] ++ (x0 :: X)) q1 → SrcTexts ys 0 (w0 :: W) q2)
    (hb1 : ∀ ys ys' q1 A B, AccKinds ys ([] ++ (n0 :: N)) q1 → AccNeN ys' ([] ++ (w0 :: W)) (A ++ (B ++ q1)) → AlikeB ys ys' (A ++ (B ++ q1)))
    (hb2 : ∀ ys ys' q1 A B, AccOth ys ([] ++ (n0 :: N)) q1 → AccEqN ys' ([] ++ (w0 :: W)) (A ++ (B ++ q1)) → AlikeB ys ys' (A ++ (B ++ q1)))
    (hq : ∀ (tk' : Nat) (vs : Array Value), post (.ok (.ret (.bool true))) tk' [lstO xs ep, { cls := .none, data := .fields vs }] [] []) :
    Runs w V0 360 (lwC (xs, ep)).c (lwC (xs, ep)).L q [] tk n gz post := by
  have hz10 : ∀ a b c d e f g h i j : Value, SzLe #[a, b, c, d, e, f, g, h, i, j] 1000 := fun _ _ _ _ _ _ _ _ _ _ => by unfold SzLe; exact Nat.le_of_ble_eq_true rfl
  have a1 : ∀ q, AccSyms #[] [] q := fun q => trivial
  have a2 : ∀ q, AccWords #[] [] q := fun q => textsNil
  have a3 : ∀ q, AccNums #[] [] q := fun q => NumsOf.empty
  have a4 : ∀ q, AccRead #[] [] q := fun q => ⟨NumsOf.empty, Nat.zero_le _⟩
  have a5 : ∀ q, AccKinds #[] [] q := fun q => trivial
  have a6 : ∀ q, AccOth #[] [] q := fun q => trivial
  have a7 : ∀ q, AccNeN #[] [] q := fun q => trivial
  have a8 : ∀ q, AccEqN #[] [] q := fun q => trivial
  have b1 : ∀ ys q, AccSyms ys ([] ++ (x0 :: X)) q → SrcSyms ys 0 (x0 :: X) q := fun ys q h => h
  have b2 : ∀ ys q A B, AccSyms ys ([] ++ (x0 :: X)) q → SrcSyms ys 0 (x0 :: X) (A ++ (B ++ q)) := fun ys q A B h => SymsOf.mono (fun p hp => List.mem_append_right _ (List.mem_append_right _ hp)) h
  exact .go1 sub0 (cC (ctSlc_ok w V0) <| cC (ctLAdd_ok w V0) <| cC (ctS_ok (loopA w V0 (x0 :: X) [] (.inl rfl) [])) <| cC (ctS_ok (loopB w V0 (x0 :: X) [] (.inl rfl) [])) <| cC (ctSumL_ok w V0 s1) <| cC (ctModA_ok w V0 k1) <| cC (ctGetT_ok w V0 ⟨M.toArray⟩) <| cC (ctJoinL_ok w V0 ws tx) <| cC cF <| cC (ctS_ok (loopR w V0 (p0 :: ps) [] (.inl rfl) [])) <| cC (ctT_ok cR) <| cC (ctLNe_ok w V0) <| cC (ctS_ok (loopC w V0 (x0 :: X) [] (.inl rfl) [])) <| cC (ctS_ok (loopD w V0 (n0 :: N) [] (.inl rfl) [])) <| cC (ctS_ok (loopF w V0 (n0 :: N) [] (.inl rfl) [])) <| cC (ctS_ok (loopG w V0 (w0 :: W) [] (.inl rfl) [])) <| cC (ctS_ok (loopH w V0 (w0 :: W) [] (.inl rfl) [])) <| cC (ctEqB_ok w V0) <| cC (ctSumL_ok w V0 s2) <| cC (ctModA_ok w V0 k2) <| cC (ctSumL_ok w V0 s3) <| c1 (ctModA_ok w V0 k3)) [0,4,4,0,1,4,2,2,2,0,2,2,0,2,0,3,6,7,6,0,6,2,1,2,4,5,8,8,0,8,0,9,2,2,4,9,7,8,6,4,4,11,11,11,4,10,10,0,10,0,12,2,3,4,12,10,11,8,14,14,14,14,14,14,0,0,4,2,2,2,0,2,2,0,2,0,13,0,2,4,1,14,0,0,0,2,5,0,0,0,0,0,4,2,2,2,0,2,2,0,2,0,15,0,2,18,1,16,0,2,19,0,0,0,19,19,19,0,19,0,20,20,0,20,0,20,20,19,20,20,20,0,20,0,20,20,19,20,20,20,0,20,0,20,20,19,20,20,20,0,20,0,20,20,19,20,20,22,4,4,4,4,4,4,0,0,4,2,2,2,0,2,2,0,2,0,22,0,2,20,1,23,0,2,21,0,23,23,23,0,23,2,6,1,21,0,4,4,0,4,0,2,7,1,11,4,4,4,0,2,8,1,1,4,4,4,26,26,0,26,0,27,2,9,4,27,25,26,24,4,4,29,29,29,29,29,29,4,0,4,4,4,4,0,2,10,1,11,26,30,26,0,26,2,11,2,24,28,4,4,10,10,0,10,0,31,2,12,4,31,29,30,8,33,33,33,33,33,33,28,32,28,0,28,2,11,2,26,30,4,28,28,0,28,0,34,2,13,4,34,32,33,26,4,4,36,36,36,4,28,28,0,28,0,37,2,14,4,37,35,36,26,4,4,39,39,39,4,4,13,13,0,13,0,40,2,15,4,40,38,39,11,42,42,42,35,41,35,0,35,2,17,2,33,39,4,4,13,13,0,13,0,43,2,16,4,43,41,42,11,45,45,45,38,44,38,0,38,2,17,2,36,42] [] [] 0 (by kernel_rfl) (by kernel_rfl) (ai (rf [246, 246, 246, 246, n + 247, n + 247, n + 247]) (ai (rf 246) (ai (rf (n + 248)) (ai hsx (fun (r : Nat) (z : Array Value) (x : SliceOf xs (some 2) (some 6) z) (n' gz' : Nat) => ai (r7 [r,r,n',r]) (ai (rf (laC ((r, z, 0, n', #[Value.int 0 (tk + 3), Value.int 6 (tk + 4), Value.int 4 (tk + 5), Value.int 17 (tk + 6), Value.int 19 (tk + 7), Value.int 15 (tk + 8), Value.int 1 (tk + 9), Value.int 5 (tk + 10), Value.int 9 (tk + 11), Value.int 20 (tk + 12)], 0)))) (ai (hz1 z x) (ai (hz10 (Value.int 0 (tk + 3)) (Value.int 6 (tk + 4)) (Value.int 4 (tk + 5)) (Value.int 17 (tk + 6)) (Value.int 19 (tk + 7)) (Value.int 15 (tk + 8)) (Value.int 1 (tk + 9)) (Value.int 5 (tk + 10)) (Value.int 9 (tk + 11)) (Value.int 20 (tk + 12))) (fun (r1 : Nat) (z1 : Array Value) (x1 : CatOf z #[Value.int 0 (tk + 3), Value.int 6 (tk + 4), Value.int 4 (tk + 5), Value.int 17 (tk + 6), Value.int 19 (tk + 7), Value.int 15 (tk + 8), Value.int 1 (tk + 9), Value.int 5 (tk + 10), Value.int 9 (tk + 11), Value.int 20 (tk + 12)] z1) (n'1 gz'1 : Nat) => ai (r7 [n'1,r1,r1,r1]) (ai (ai (rf (n'1 + 247)) (ai (rf true) (rf true))) (ai (rf (lxC w.params eSym [] ⟨n'1 + 2, n'1, n'1 + 1, r1, 0, S "law.<locals>.", Value.ref 244, n + 247, #[], 0, z1, 0, 0, Value.none, 0, Value.none, 0⟩)) (ai (hsrc z z1 (tk + 3) (tk + 4) (tk + 5) (tk + 6) (tk + 7) (tk + 8) (tk + 9) (tk + 10) (tk + 11) (tk + 12) q x x1) (ai (a1 q) (ai hfX (ai (rf ([] : List (Nat × Code))) (fun (tk' ep' : Nat) (ys' : Array Value) (τ' σ' ee' : Nat) (v' u' : Value) (io' : Obj) (nq : List (Nat × Obj)) (x2 : AccSyms ys' (x0 :: X) (nq ++ q)) (x3 : FewQ nq (x0 :: X)) (n'2 gz'2 : Nat) => ai (r7 [n'2,n'1 + 1,n'1 + 1,n'1 + 1,n,n'1 + 2,n'1 + 2,n'1 + 2,n,n]) (ai (ai (rf (n'2 + 247)) (ai (rf true) (rf true))) (ai (rf (lxC w.params eWrd [] ⟨n'2 + 2, n'2, n'2 + 1, n'1 + 1, 0, S "law.<locals>.", Value.ref 244, n + 247, #[], 0, ys', ep', 0, Value.none, 0, Value.none, 0⟩)) (ai (b1 ys' (nq ++ q) x2) (ai (a2 (nq ++ q)) (ai hfX (ai (rf ([] : List (Nat × Code))) (fun (tk'1 : Nat) (ep'1 : Nat) (ys'1 : Array Value) (τ'1 : Nat) (σ'1 : Nat) (ee'1 : Nat) (v'1 : Value) (u'1 : Value) (io'1 : Obj) (nq1 : List (Nat × Obj)) (x4 : AccWords ys'1 (x0 :: X) (nq1 ++ (nq ++ q))) => fun (x5 : FewQ nq1 (x0 :: X)) (n'3 gz'3 : Nat) => ai (rf [246, 246, 246, 246, n + 247, n'2 + 249, n'2 + 249, n'2 + 249, n'2 + 249, n'2 + 249, n'2 + 249]) (ai (rf 246) (ai (rf (n'3 + 247)) (ai hsx (fun (r2 : Nat) (z2 : Array Value) (x6 : SliceOf xs none (some 1) z2) (n'4 gz'4 : Nat) => ai (r7 []) (ai (rf (suL ((r2, z2, 0)))) (ai (hs1 z2 x6) (fun (t tk'2 n'5 gz'5 : Nat) => ai (r7 []) (ai hk1 (fun (n'6 gz'6 : Nat) => ai (rf [246, 246, 246, 246, n + 247]) (ai (rf 246) (ai (rf (n'6 + 247)) (ai hsx (fun (r3 : Nat) (z3 : Array Value) (x7 : SliceOf xs (some 1) (some 2) z3) (n'7 gz'7 : Nat) => ai (r7 []) (ai (rf (suL ((r3, z3, 0)))) (ai (hs2 z3 x7) (fun (t1 tk'3 n'8 gz'8 : Nat) => ai (r7 []) (ai hk2 (fun (n'9 gz'9 : Nat) => ai (rf [246, 246, 246, 246, n + 247, n + 247, n + 247, n + 247, n + 247, n + 247, n + 247, n'9 + 250, n'9 + 248, n'9 + 248,   n'9 + 247, n'9 + 248, n'9 + 248, n'9 + 248, n'9 + 248, n'9 + 248, n'9 + 248, n'9 + 247, n'9 + 248, n'9 + 248,   n'9 + 248, n'9 + 248, n'9 + 248, n'9 + 248, n'9 + 247, n'9 + 248, n'9 + 248, n'9 + 248, n'9 + 248, n'9 + 248,   n'9 + 248, n'9 + 247, n'9 + 248, n'9 + 248, n'9 + 248, n'9 + 248, n'9 + 248, n'9 + 247, n'9 + 247, n'9 + 247,   n'9 + 247]) (ai (rf 246) (ai (rf (n'9 + 252)) (ai hsx (fun (r4 : Nat) (z4 : Array Value) (x8 : SliceOf xs none (some 2) z4) (n'10 gz'10 : Nat) => ai (r7 []) (ai (rf (suL ((r4, z4, 0)))) (ai (hs3 z4 x8) (fun (t2 tk'4 n'11 gz'11 : Nat) => ai (r7 []) (ai hk3 (fun (n'12 gz'12 : Nat) => ai (r7 [n'9 + 4,n'9 + 4,n'9 + 4,n'9 + 4]) (ai (rf (n'9 + 251)) (ai hi0 (ai hi1 (ai (hmk (tk'3 + 6) (tk'3 + 7) (tk'3 + 8) (tk'3 + 9)) (fun (u n'13 gz'13 : Nat) => ai (r7 [n,n,n]) (ai (rf (jlC ((S " ", tk'4 + 3, n'2 + 1, ys'1, ep'1)))) (ai (hwt ys'1 (nq1 ++ (nq ++ q)) x4) (ai hjt (fun (t3 tk'5 n'14 gz'14 : Nat) => ai (r7 [n,n,n]) (ai (rf (foC (1 + k1) (11 + k2) ((tx, t3, tk'2 + 3, tk'3 + 2, { cps := M.toArray }, u)))) (ai hfo (ai (rf ([] : List (Nat × Code))) (fun (n1 tk'6 : Nat) (xs1 vs : Array Value) (x9 : TextsOf xs1 rows) (n'15 gz'15 : Nat) => ai (r7 [n'15,n1,n1,n1,n,n,n]) (ai (ai (rf (n'15 + 247)) (ai (rf true) (rf true))) (ai (rf (lxC w.params eRead [] ⟨n'15 + 2, n'15, n'15 + 1, n1, 0, S "law.<locals>.", Value.ref 244, n + 247, #[], 0, xs1, 0, 0, Value.none, 0, Value.none, 0⟩)) (ai (hrd xs1 (nq1 ++ (nq ++ q)) x9) (ai (a4 (nq1 ++ (nq ++ q))) (ai hfP (ai (rf ([] : List (Nat × Code))) (fun (tk'7 : Nat) (ep'2 : Nat) (ys'2 : Array Value) (τ'2 : Nat) (σ'2 : Nat) (ee'2 : Nat) (v'2 : Value) (u'2 : Value) (io'2 : Obj) (nq2 : List (Nat × Obj)) (x10 : AccRead ys'2 (p0 :: ps) (nq2 ++ (nq1 ++ (nq ++ q)))) => fun (x11 : FewQ nq2 (p0 :: ps)) (n'16 gz'16 : Nat) => ai (r7 [n,n,n,n,n,n'15 + 2,n'15 + 2,n'15 + 2,n'15 + 2,n'15 + 2,n'15 + 2,n,n]) (ai (rf false) (ai (rf (rqC (1 + k1) (11 + k2) M ((n'2 + 1, tk'2 + 3, tk'3 + 2, u)))) (ai (hwi (n'2 + 1) ys'1 ep'1 (nq1 ++ (nq ++ q)) (nq2 ++ (nq1 ++ (nq ++ q))) x4) (ai (rf ([] : List (Nat × Code))) (fun (n2 tk'8 : Nat) (xs2 : Array Value) (x12 : TextsOf xs2 rows) => ai (rf ([] : List (Nat × Obj))) (fun (n'17 gz'17 : Nat) => ai (r7 [n1,n1,n2,n1]) (ai (rf (twC "list.__ne__" ((n1, xs1, 0, n2, xs2, 0)))) (ai (hal xs1 xs2 x9 x12) (fun (n'18 gz'18 : Nat) => ai (r7 [n'18,n'1 + 1,n'1 + 1,n'1 + 1,n,n]) (ai (ai (rf (n'18 + 247)) (ai (rf true) (rf true))) (ai (rf (lxC w.params eNum [] ⟨n'18 + 2, n'18, n'18 + 1, n'1 + 1, 0, S "law.<locals>.", Value.ref 244, n + 247, #[], 0, ys', ep', 0, Value.none, 0, Value.none, 0⟩)) (ai (b2 ys' (nq ++ q) nq2 nq1 x2) (ai (a3 (nq2 ++ (nq1 ++ (nq ++ q)))) (ai hfX (ai (rf ([] : List (Nat × Code))) (fun (tk'9 : Nat) (ep'3 : Nat) (ys'3 : Array Value) (τ'3 : Nat) (σ'3 : Nat) (ee'3 : Nat) (v'3 : Value) (u'3 : Value) (io'3 : Obj) (nq3 : List (Nat × Obj)) (x13 : AccNums ys'3 (x0 :: X) (nq3 ++ (nq2 ++ (nq1 ++ (nq ++ q))))) => fun (x14 : FewQ nq3 (x0 :: X)) (n'19 gz'19 : Nat) => ai (r7 [n'15 + 1,n'15 + 1,n'18 + 1,n'15 + 1,n'18 + 2,n'18 + 2,n'18 + 2,n'18 + 2,n'18 + 2,n'18 + 2]) (ai (rf (twC "list.__ne__" ((n'15 + 1, ys'2, ep'2, n'18 + 1, ys'3, ep'3)))) (ai (hal2 ys'2 (nq2 ++ (nq1 ++ (nq ++ q))) ys'3 (nq3 ++ (nq2 ++ (nq1 ++ (nq ++ q)))) x10 x13) (fun (n'20 gz'20 : Nat) => ai (r7 [n'20,n'15 + 1,n'15 + 1,n'15 + 1,n]) (ai (ai (rf (n'20 + 247)) (ai (rf true) (rf true))) (ai (rf (lxC w.params eKind [] ⟨n'20 + 2, n'20, n'20 + 1, n'15 + 1, 0, S "law.<locals>.", Value.ref 244, n + 247, #[], 0, ys'2, ep'2, 0, Value.none, 0, Value.none, 0⟩)) (ai (hki ys'2 (nq2 ++ (nq1 ++ (nq ++ q))) (nq3 ++ (nq2 ++ (nq1 ++ (nq ++ q)))) x10) (ai (a5 (nq3 ++ (nq2 ++ (nq1 ++ (nq ++ q))))) (ai hfN (ai (rf ([] : List (Nat × Code))) (fun (tk'10 : Nat) (ep'4 : Nat) (ys'4 : Array Value) (τ'4 : Nat) (σ'4 : Nat) (ee'4 : Nat) (v'4 : Value) (u'4 : Value) (io'4 : Obj) (nq4 : List (Nat × Obj)) (x15 : AccKinds ys'4 (n0 :: N) (nq4 ++ (nq3 ++ (nq2 ++ (nq1 ++ (nq ++ q)))))) => fun (x16 : FewQ nq4 (n0 :: N)) (n'21 gz'21 : Nat) => ai (r7 [n'21,n'15 + 1,n'15 + 1,n'15 + 1,n,n'20 + 2,n'20 + 2,n'20 + 2,n,n]) (ai (ai (rf (n'21 + 247)) (ai (rf true) (rf true))) (ai (rf (lxC w.params eOth [] ⟨n'21 + 2, n'21, n'21 + 1, n'15 + 1, 0, S "law.<locals>.", Value.ref 244, n + 247, #[], 0, ys'2, ep'2, 0, Value.none, 0, Value.none, 0⟩)) (ai (hki ys'2 (nq2 ++ (nq1 ++ (nq ++ q))) (nq4 ++ (nq3 ++ (nq2 ++ (nq1 ++ (nq ++ q))))) x10) (ai (a6 (nq4 ++ (nq3 ++ (nq2 ++ (nq1 ++ (nq ++ q)))))) (ai hfN (ai (rf ([] : List (Nat × Code))) (fun (tk'11 : Nat) (ep'5 : Nat) (ys'5 : Array Value) (τ'5 : Nat) (σ'5 : Nat) (ee'5 : Nat) (v'5 : Value) (u'5 : Value) (io'5 : Obj) (nq5 : List (Nat × Obj)) (x17 : AccOth ys'5 (n0 :: N) (nq5 ++ (nq4 ++ (nq3 ++ (nq2 ++ (nq1 ++ (nq ++ q))))))) => fun (x18 : FewQ nq5 (n0 :: N)) (n'22 gz'22 : Nat) => ai (r7 [n'22,n'2 + 1,n'2 + 1,n'2 + 1,n,n,n'21 + 2,n'21 + 2,n'21 + 2,n,n]) (ai (ai (rf (n'22 + 247)) (ai (rf true) (rf true))) (ai (rf (lxC w.params eNeN [] ⟨n'22 + 2, n'22, n'22 + 1, n'2 + 1, 0, S "law.<locals>.", Value.ref 244, n + 247, #[], 0, ys'1, ep'1, 0, Value.none, 0, Value.none, 0⟩)) (ai (hte ys'1 (nq1 ++ (nq ++ q)) (nq5 ++ (nq4 ++ (nq3 ++ (nq2 ++ (nq1 ++ (nq ++ q)))))) x4) (ai (a7 (nq5 ++ (nq4 ++ (nq3 ++ (nq2 ++ (nq1 ++ (nq ++ q))))))) (ai hfW (ai (rf ([] : List (Nat × Code))) (fun (tk'12 : Nat) (ep'6 : Nat) (ys'6 : Array Value) (τ'6 : Nat) (σ'6 : Nat) (ee'6 : Nat) (v'6 : Value) (u'6 : Value) (io'6 : Obj) (nq6 : List (Nat × Obj)) (x19 : AccNeN ys'6 (w0 :: W) (nq6 ++ (nq5 ++ (nq4 ++ (nq3 ++ (nq2 ++ (nq1 ++ (nq ++ q)))))))) => fun (x20 : FewQ nq6 (w0 :: W)) (n'23 gz'23 : Nat) => ai (r7 [n'20 + 1,n'20 + 1,n'22 + 1,n'20 + 1,n'22 + 2,n'22 + 2,n'22 + 2]) (ai (rf (twC "list.__eq__" ((n'20 + 1, ys'4, ep'4, n'22 + 1, ys'6, ep'6)))) (ai (hb1 ys'4 ys'6 (nq4 ++ (nq3 ++ (nq2 ++ (nq1 ++ (nq ++ q))))) nq6 nq5 x15 x19) (fun (n'24 gz'24 : Nat) => ai (r7 [n'24,n'2 + 1,n'2 + 1,n'2 + 1,n,n]) (ai (ai (rf (n'24 + 247)) (ai (rf true) (rf true))) (ai (rf (lxC w.params eEqN [] ⟨n'24 + 2, n'24, n'24 + 1, n'2 + 1, 0, S "law.<locals>.", Value.ref 244, n + 247, #[], 0, ys'1, ep'1, 0, Value.none, 0, Value.none, 0⟩)) (ai (hte ys'1 (nq1 ++ (nq ++ q)) (nq6 ++ (nq5 ++ (nq4 ++ (nq3 ++ (nq2 ++ (nq1 ++ (nq ++ q))))))) x4) (ai (a8 (nq6 ++ (nq5 ++ (nq4 ++ (nq3 ++ (nq2 ++ (nq1 ++ (nq ++ q)))))))) (ai hfW (ai (rf ([] : List (Nat × Code))) (fun (tk'13 : Nat) (ep'7 : Nat) (ys'7 : Array Value) (τ'7 : Nat) (σ'7 : Nat) (ee'7 : Nat) (v'7 : Value) (u'7 : Value) (io'7 : Obj) (nq7 : List (Nat × Obj)) (x21 : AccEqN ys'7 (w0 :: W) (nq7 ++ (nq6 ++ (nq5 ++ (nq4 ++ (nq3 ++ (nq2 ++ (nq1 ++ (nq ++ q))))))))) => fun (x22 : FewQ nq7 (w0 :: W)) (n'25 gz'25 : Nat) => ai (r7 [n'21 + 1,n'21 + 1,n'24 + 1,n'21 + 1,n'24 + 2,n'24 + 2,n'24 + 2]) (ai (rf (twC "list.__eq__" ((n'21 + 1, ys'5, ep'5, n'24 + 1, ys'7, ep'7)))) (ai (hb2 ys'5 ys'7 (nq5 ++ (nq4 ++ (nq3 ++ (nq2 ++ (nq1 ++ (nq ++ q)))))) nq7 nq6 x17 x21) (fun (n'26 gz'26 : Nat) => ai (r7 []) (hq tk'13 vs))))))))))))))))))))))))))))))))))))))))))))))))))))))))))))))))))))))))))))))))))))))))))))))))))))))))))))))))))))))))))))
end
end Mine

namespace Mine
open PySem PySem.W PySem.W.X PyProof.Rows
noncomputable section
noncomputable def ctLaw : Ct := mkC 360 (fun _ L _ => (oSeq (lO L 0), oEp (lO L 0))) lwC fun x q gs tk post =>
  (∃ sc, NumsOf x.1 sc ∧ sc.length ≤ 63) ∧ gs = [] ∧ ∀ (tk' : Nat) (vs : Array Value), post (.ok (.ret (.bool true))) tk' [lstO x.1 x.2, { cls := .none, data := .fields vs }] [] []
theorem ctLaw_ok (w : World) : CtOk w V0 ctLaw := mkC_ok 360 rfl fun x q gs tk post h n gz => by
  obtain ⟨xs, ep⟩ := x
  obtain ⟨⟨sc, hn, h63⟩, rfl, hq⟩ := h
  change NumsOf xs sc at hn
  have hxl := xs_len sc
  have hwl := ws_len sc
  have hhd := hd_b sc
  have hmx := mx_b sc
  have hM := mk_ok sc
  have hws := ws_ok sc
  have e1 : hdOf sc = 1 + ((3 + (sc.take 1).sum) % 12).toNat := rfl
  have e2 : mxOf sc = 11 + (((sc.drop 1).take 1).sum % 10).toNat := rfl
  obtain ⟨x0, X, hX⟩ : ∃ x0 X, xsOf sc = x0 :: X := List.exists_cons_of_ne_nil fun e => by rw [e] at hxl; exact absurd hxl.1 (by decide)
  obtain ⟨w0, W, hW⟩ : ∃ w0 W, wsOf2 sc = w0 :: W := by unfold wsOf2; rw [hX]; exact ⟨_, _, rfl⟩
  obtain ⟨n0, N, hN⟩ : ∃ n0 N, nsOf sc = n0 :: N := by unfold nsOf; rw [hX]; exact ⟨_, _, rfl⟩
  obtain ⟨p0, ps, hP⟩ : ∃ p0 ps, pcsOf sc = p0 :: ps := List.exists_cons_of_ne_nil (pcs_len sc).2
  have hnl : (nsOf sc).length ≤ 14 := by unfold nsOf; rw [List.length_map]; omega
  have hpl := (pcs_len sc).1
  have cF := ctFolded_ok w (fold_is sc)
  have cR := ctRowsQ_ok w V0 (hd := hdOf sc) (mx := mxOf sc) (l := wsOf2 sc) hM (by omega) (by omega) (by omega) (by omega) (by omega) (rfl : _ = rend (rowsL sc))
  rw [e1, e2] at cF cR
  have hf : ∀ {α : Type} {l : List α} {y : α} {r : List α}, l = y :: r → l.length ≤ 20 → Few ([] : List α) (y :: r) := fun {α l y r} h h2 => by
    rw [h] at h2
    show 0 + _ ≤ 200
    omega
  have hwt : ∀ ys q', AccWords ys ([] ++ (x0 :: X)) q' → TextsOf ys (wsOf2 sc) := fun ys q' h => by
    unfold wsOf2
    rw [hX]
    exact h
  have hread : ∀ ys q', AccRead ys ([] ++ (p0 :: ps)) q' → NumsOf ys (nsOf sc) := fun ys q' h => by
    have h1 := h.1
    rw [List.nil_append, ← hP, read_is] at h1
    exact h1
  have hjt := fits_of (sep := S " ") (l := wsOf2 sc) (by decide) (by omega) fun x hx => by
    obtain ⟨a, b, e⟩ := ws_two sc x hx
    rw [e]
    exact (show (2 : Nat) ≤ 100 by decide)
  have hk3 := mod_is (sc.take 2).sum 4 (by decide)
  have happ : ∀ {q1 A B : List (Nat × Obj)} (p : Nat × Obj), p ∈ q1 → p ∈ A ++ (B ++ q1) := fun p hp => List.mem_append_right _ (List.mem_append_right _ hp)
  refine lwRun w cF cR (x0 := x0) (X := X) (n0 := n0) (N := N) (w0 := w0) (W := W) (p0 := p0) (ps := ps) (tx := Txt.join (S " ") (wsOf2 sc)) (s1 := (sc.take 1).sum) (s2 := ((sc.drop 1).take 1).sum) (s3 := (sc.take 2).sum) (k3 := ((sc.take 2).sum % 4).toNat)
    (by show xs.size ≤ 1000; rw [hn.size]; omega) (fun z h => ?_) (fun z zz t0 t1 t2 t3 t4 t5 t6 t7 t8 t9 q' h1 h2 => ⟨xsOf sc, nums_cat (nums_run (a := 2) (b := 6) (by decide) hn h1) ⟨[t0, t1, t2, t3, t4, t5, t6, t7, t8, t9], rfl, rfl⟩ h2, hX⟩)
    (hf hX (by omega)) (hf hW (by omega)) (hf hN (by omega)) (hf hP (by omega))
    (fun z h => ⟨_, nums_upto (k := 1) hn h, rfl⟩) (fun z h => ⟨_, nums_run (a := 1) (b := 2) (by decide) hn h, rfl⟩) (fun z h => ⟨_, nums_upto (k := 2) hn h, rfl⟩)
    (mod_is _ 12 (by decide)).1 (mod_is _ 10 (by decide)).1 hk3.1 (Int.natCast_nonneg _) ?_ (fun t0 t1 t2 t3 => ?_) hwt hjt ⟨by omega, by omega, hM, rfl, rfl, hws.1, hws.2.1, hws.2.2⟩
    (fun ys q' h => ⟨pcsOf sc, by rw [← rend_pcs]; exact h, hP, pcs_ok sc⟩) (fun a ys ep q1 q2 h => ⟨ys, ep, List.mem_cons_self .., hwt _ _ h, ws_two sc⟩)
    (fun ys ys' h1 h2 => .inl ⟨_, h1, h2⟩) (fun ys q1 ys' q2 h1 h2 => .inr ⟨nsOf sc, hread _ _ h1, by unfold nsOf; rw [hX]; exact h2⟩)
    (fun ys q1 q2 h => ⟨nsOf sc, hread _ _ h, hN⟩) (fun ys q1 q2 h => ⟨wsOf2 sc, ⟨hwt _ _ h, ws_two sc⟩, hW⟩)
    (fun ys ys' q1 A B h1 h2 => ⟨(wsOf2 sc).map fun x => (!isN x, !isN x), BoolsOf.mono happ (by rw [← kinds_is, hN]; exact h1), by rw [hW]; exact h2⟩)
    (fun ys ys' q1 A B h1 h2 => ⟨(wsOf2 sc).map fun x => (isN x, isN x), BoolsOf.mono happ (by rw [← oths_is, hN]; exact h1), by rw [hW]; exact h2⟩) hq
  · have h1 := nums_run (a := 2) (b := 6) (by decide) hn h
    show z.size ≤ 1000
    rw [h1.size, List.length_take]
    omega
  · show ((((sc.take 2).sum % 4).toNat : Nat) : Int) < 1000000
    have e : (4 : Int).toNat = 4 := rfl
    omega
  · have e : (4 : Int).toNat = 4 := rfl
    have hk4 := hk3.2
    rw [e] at hk4
    unfold mkOf AtS AtI
    generalize ((sc.take 2).sum % 4).toNat = k at hk4
    have a0 : S "=" = ⟨#[61]⟩ := by decide +kernel
    have a1 : S ">" = ⟨#[62]⟩ := by decide +kernel
    have a2 : S "*=" = ⟨#[42, 61]⟩ := by decide +kernel
    have a3 : S "/<" = ⟨#[47, 60]⟩ := by decide +kernel
    rw [a0, a1, a2, a3]
    have : k = 0 ∨ k = 1 ∨ k = 2 ∨ k = 3 := by omega
    rcases this with rfl | rfl | rfl | rfl
    · exact ⟨t0, rfl⟩
    · exact ⟨t1, rfl⟩
    · exact ⟨t2, rfl⟩
    · exact ⟨t3, rfl⟩
theorem top_of (P : Params) : KT.of (frag P) = top P := by kernel_rfl
theorem allIn_cons {h : Heap} {p : Addr × Obj} {K : Frag} (H : AllIn h (p :: K)) : h.get? p.1 = some p.2 ∧ AllIn h K := H
theorem fT {h : Heap} {P : Params} (hA : AllIn h (fragT P)) : AllIn h ((179, tb0) :: (186, tb0) :: (230, tb0) :: frag P) := hA
theorem fH {h : Heap} {K : Frag} {T : KT} (e : KT.of K = T) (hF : AllIn h K) : KT.Holds h 1 0 T := e ▸ holds_of hF
theorem fH2 {h : Heap} {P : Params} (hF : AllIn h (frag P)) : KT.Holds h 1 0 (top P) := fH (top_of P) hF
theorem fH3 {h h' : Heap} {T : KT} (z0 : KT.Holds h 1 0 T) (hkp : ∀ b o, h.get? b = some o → h'.get? b = some o) : ∀ a o, T.get a = some o → h'.get? a = some o := fun a o e => by
  have z := z0.get e
  rw [Nat.one_mul, Nat.add_zero] at z
  exact hkp _ _ z
theorem fH4 {h h' : Heap} {P : Params} (hA : AllIn h (fragT P)) (hkp : ∀ b o, h.get? b = some o → h'.get? b = some o) : (∀ a o, (top P).get a = some o → h'.get? a = some o) ∧ h'.get? 179 = some tb0 ∧ h'.get? 186 = some tb0 ∧ h'.get? 230 = some tb0 := by
  have ⟨t1, h1⟩ := allIn_cons (fT hA)
  have ⟨t2, h2⟩ := allIn_cons h1
  have ⟨t3, hF⟩ := allIn_cons h2
  exact ⟨fH3 (fH2 hF) hkp, hkp _ _ t1, hkp _ _ t2, hkp _ _ t3⟩
theorem table_of {h : Heap} {P : Params} {c b : Nat} {o : Obj} (ht : ∀ a o, (top P).get a = some o → h.get? a = some o) (e : (top P).get c = some o) (h1 : o.cls = .type "code") {vs : Array Value} (h2 : o.data = .fields vs) (h3 : vs[11]? = some (.ref b)) : isCodeTable h b := ⟨c, o, vs, ht _ _ e, h1, h2, h3⟩
theorem law_end {w : World} {s₀ s : Shared} (hA : AllIn s₀.heap (fragT w.params)) (hkp : ∀ b o, s₀.heap.get? b = some o → s.heap.get? b = some o) (hsz : s.heap.objs.size = 247) (hg : s.gens = #[]) {xs : Array Value} {sc : List Int} (hs : s.heap.get? 246 = some { cls := .type "list", data := .seq xs }) (hn : NumsOf xs sc) (h63 : sc.length ≤ 63)
    {c : ClaimW} {cl : Str → Option Addr} {mean : ExcName → Option Value} {args : List WData} (hr : ∀ cls, c.raises args cls = false) (hp : c.post args (.bool true) args = true) :
    wpAny (model PW w) callerA (call (.ref 245) [.ref 246]) (fun v s' => GoodWG c cl mean args s (.ok (.ret v)) s') (fun e s' => GoodWG c cl mean args s (.error e) s') s := by
  obtain ⟨h, g, d, tk, os⟩ := s
  dsimp only at hkp hsz hg hs
  subst hg
  have ⟨ht, t1, t2, t3⟩ := fH4 hA hkp
  have n246 : (top w.params).get 246 = none := by kernel_rfl
  have n230 : (top w.params).get 230 = none := by kernel_rfl
  have n179 : (top w.params).get 179 = none := by kernel_rfl
  have n186 : (top w.params).get 186 = none := by kernel_rfl
  have c179 : isCodeTable h 179 := table_of (c := 183) (o := ob183 w.params) ht (by kernel_rfl) rfl rfl rfl
  have c186 : isCodeTable h 186 := table_of (c := 190) (o := ob190 w.params) ht (by kernel_rfl) rfl rfl rfl
  have c230 : isCodeTable h 230 := table_of (c := 234) (o := ob234 w.params) ht (by kernel_rfl) rfl rfl rfl
  have H : Have w.params V0 h #[] [(246, lstO xs 0), (230, tb0)] [] [] := by
    refine ⟨ht, fun p hp => ?_, (show [246, 230].Nodup by decide), fun p hp => ?_, (fun p hp => nomatch hp), fun a o e => ?_, by omega, ⟨fun a ha => ?_, AllBare.empty⟩, (fun p hp => nomatch hp)⟩
    · rcases List.mem_cons.mp hp with rfl | hp
      · exact hs
      · rw [List.mem_singleton.mp hp]; exact t3
    · rcases List.mem_cons.mp hp with rfl | hp
      · exact ⟨n246, (show 246 ∉ [179, 186] by decide)⟩
      · rw [List.mem_singleton.mp hp]; exact ⟨n230, (show 230 ∉ [179, 186] by decide)⟩
    · intro hm
      have : a = 179 ∨ a = 186 := by simpa [V0] using hm
      rcases this with rfl | rfl
      · rw [n179] at e; cases e
      · rw [n186] at e; cases e
    · have : a = 179 ∨ a = 186 := by simpa [V0] using ha
      rcases this with rfl | rfl
      · exact .inl (t1)
      · exact .inl (t2)
  have hroom : Room 360 callerA := ⟨by decide, by decide, rfl⟩
  refine wpAny_call (ctLaw_ok w (lwC (xs, 0)).c (lwC (xs, 0)).L [] [] tk (fun r tk' L' ns nq => r = .ok (.ret (.bool true)) ∧ ∃ vs, L' = [lstO xs 0, { cls := .none, data := .fields vs }]) ⟨rfl, ⟨sc, hn, h63⟩, rfl, fun tk' vs => ⟨rfl, vs, rfl⟩⟩ callerA _ h #[] d os hroom H ?_)
  · rintro r tk' L' ns nq h' g' ⟨rfl, vs, rfl⟩ Af
    have hold : ∀ b o, h.get? b = some o → b ≠ 179 → b ≠ 186 → b ≠ 230 → h'.get? b = some o := fun b o e e1 e2 e3 => by
      by_cases e4 : b = 246
      · subst e4
        have := Af.here 0 _ _ rfl rfl rfl
        rw [hs] at e
        cases e
        exact this
      · exact Af.keep b o e (by simp [V0, e1, e2]) (by simp [lwC, e3, e4])
    have htab : ∀ b, b = 179 ∨ b = 186 ∨ b = 230 → isCodeTable h b ∧ h.get? b = some tb0 ∧ ∃ vs, h'.get? b = some { cls := .none, data := .fields vs } := fun b hb => by
      rcases hb with rfl | rfl | rfl
      · exact ⟨c179, t1, (Af.inv.1 179 (by decide)).elim (fun z => ⟨_, z⟩) fun ⟨_, z⟩ => ⟨_, z⟩⟩
      · exact ⟨c186, t2, (Af.inv.1 186 (by decide)).elim (fun z => ⟨_, z⟩) fun ⟨_, z⟩ => ⟨_, z⟩⟩
      · exact ⟨c230, t3, vs, Af.here 1 _ _ rfl rfl rfl⟩
    refine ⟨.inl ⟨_, _, [], rfl, hr, ReadsW.bool true, hp, fun _ => ⟨List.nodup_nil, fun _ hm => (nomatch hm)⟩⟩, ⟨fun b o e => ?_, fun b o e => ?_⟩, rfl, Af.inv.2⟩
    · by_cases hb : b = 179 ∨ b = 186 ∨ b = 230
      · obtain ⟨z1, z2, vs, z3⟩ := htab b hb
        rw [z2] at e
        cases e
        exact .inr (.inl ⟨z1, rfl, #[], vs, rfl, by rw [Array.empty_append]; exact z3⟩)
      · exact .inl (hold b o e (fun x => hb (.inl x)) (fun x => hb (.inr (.inl x))) fun x => hb (.inr (.inr x)))
    · by_cases hb : b = 179 ∨ b = 186 ∨ b = 230
      · obtain ⟨z1, z2, vs, z3⟩ := htab b hb
        exact ⟨_, z3⟩
      · exact ⟨o, hold b o e (fun x => hb (.inl x)) (fun x => hb (.inr (.inl x))) fun x => hb (.inr (.inr x))⟩
theorem nums_ints {vs : List Value} {ns : List Int} (h : IntsAre vs ns) : NumsOf vs.toArray ns := by
  induction h with
  | nil => exact ⟨[], rfl, rfl⟩
  | cons n t h ih =>
    obtain ⟨ts, h1, h2⟩ := ih
    refine ⟨t :: ts, by rw [List.length_cons, List.length_cons, h1], ?_⟩
    have h3 : _ = List.zipWith (fun x t => Value.int x t) _ ts := congrArg Array.toList h2
    rw [List.toList_toArray] at h3
    rw [List.zipWith_cons_cons, ← h3]
end
end Mine

namespace Mine
open PySem PySem.W PySem.W.X PyProof.Rows
theorem said : PySem.W.OpenLaw.wellSaid PySem.Challenge.rw_pe0246_01 = true := by decide +kernel
end Mine
open PySem PySem.W PySem.W.X PyProof.Rows
set_option maxHeartbeats 0 in
theorem PySem.Challenge.cw_pe0246_01_holds : PySem.Challenge.rw_pe0246_01.Holds := by
  refine holds_law Mine.said fun said => ?_
  refine holds_openX (q := Mine.hdVw) (loose := Mine.hdLo) (Xt := Mine.hdXt) (XP := XL Mine.hdVw []) Mine.left (fun s e => xl_of s (Bool.and_eq_true_iff.mp e).1) XL.keeps (by rfl) (by rfl) (by rfl) (fun s e => recFacts_of (Bool.and_eq_true_iff.mp e).2) (by rfl) (by assumption) (by decide +kernel) ⟨rfl, rfl, rfl, rfl, rfl, by decide +kernel⟩ ?hw ?hc
  case hw => w_witness2
  intro w s₀ s₁ mg mb G y fa o pm cd doc dV kV ho hd hcd hD hmg hg args vals as L hpre hlay hrd hwl hlo
  obtain ⟨ZA, ZI, ZN, ZT⟩ := z_facts Mine.hdNos_eq y
  have KX : Frag.In (Mine.fragT w.params) s₁.heap := InK.keeps w _ _ ZI L.keeps
  refine Ground.open G ?_
  intro T B D TE TW
  wrow_args hpre hlay hrd hwl hlo
  obtain ⟨hat, hsz⟩ := script_at L
  rw [ZN] at hat hsz
  subst hat
  x_fa T KX hmg
  all_lens
  have hI := ‹IntsAre _ _›
  have hO := script_obj L ‹s₁.heap.IsList 246 _›
  exact Mine.law_end ZA (fun b o e => L.keeps b o e) hsz hg hO (Mine.nums_ints hI) (by omega) (fun _ => rfl) (by first | wrow_post | rfl)
