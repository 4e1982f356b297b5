import PyProof.Rows.All
import Wide.All
import OpenK.AllK
import Wide.FinOn
import Lean
import PySem.Challenge.RW_pd0088_01
set_option Elab.async false
set_option maxRecDepth 100000
set_option maxHeartbeats 0
set_option synthInstance.maxSize 4000
set_option compiler.extract_closed false
set_option hygiene false
set_option linter.all false
set_option linter.unusedVariables false
set_option linter.unusedSimpArgs false
section
open PySem PySem.W PyProof.Rows
set_option maxRecDepth 100000

namespace Pd88.Internal

/-! Forcing in continuation style: each is the identity, and the kernel evaluates what it hands on. -/
section
universe u
variable {α : Sort u}
noncomputable def fNat (n : Nat) (k : Nat → α) : α := @Nat.rec (fun _ => α) (k 0) (fun m _ => k (Nat.succ m)) n
theorem fNat_eq (n : Nat) (k : Nat → α) : fNat n k = k n := by cases n <;> rfl
noncomputable def fBool (b : Bool) (k : Bool → α) : α := @Bool.rec (fun _ => α) (k false) (k true) b
theorem fBool_eq (b : Bool) (k : Bool → α) : fBool b k = k b := by cases b <;> rfl
noncomputable def fInt (i : Int) (k : Int → α) : α := @Int.rec (fun _ => α) (fun n => fNat n fun n => k (.ofNat n)) (fun n => fNat n fun n => k (.negSucc n)) i
theorem fInt_eq (i : Int) (k : Int → α) : fInt i k = k i := by cases i <;> (unfold fInt; simp only [fNat_eq])
noncomputable def fList {β : Type} (f : β → (β → α) → α) (l : List β) (k : List β → α) : α :=
 @List.rec β (fun _ => (List β → α) → α) (fun k => k []) (fun x _ ih k => f x fun x => ih fun xs => k (x :: xs)) l k
theorem fList_eq {β : Type} {f : β → (β → α) → α} (hf : ∀ x k, f x k = k x) (l : List β) (k : List β → α) : fList f l k = k l := by
 induction l generalizing k with
 | nil => rfl
 | cons x l ih => show f x (fun x => fList f l fun xs => k (x :: xs)) = _; rw [hf, ih]
noncomputable def fArr {β : Type} (f : β → (β → α) → α) (a : Array β) (k : Array β → α) : α := @Array.rec β (fun _ => α) (fun l => fList f l fun l => k ⟨l⟩) a
theorem fArr_eq {β : Type} {f : β → (β → α) → α} (hf : ∀ x k, f x k = k x) (a : Array β) (k : Array β → α) : fArr f a k = k a := by
 obtain ⟨l⟩ := a; unfold fArr; simp only [fList_eq hf]
noncomputable def fOpt {β : Type} (f : β → (β → α) → α) (o : Option β) (k : Option β → α) : α := @Option.rec β (fun _ => α) (k none) (fun x => f x fun x => k (some x)) o
theorem fOpt_eq {β : Type} {f : β → (β → α) → α} (hf : ∀ x k, f x k = k x) (o : Option β) (k : Option β → α) : fOpt f o k = k o := by
 cases o with
 | none => rfl
 | some x => exact hf x _
noncomputable def fStr (s : Str) (k : Str → α) : α := @Str.rec (fun _ => α) (fun a => fArr fNat a fun a => k ⟨a⟩) s
theorem fStr_eq (s : Str) (k : Str → α) : fStr s k = k s := by obtain ⟨a⟩ := s; unfold fStr; simp only [fArr_eq fNat_eq]
noncomputable def fVal (v : Value) (k : Value → α) : α :=
 @Value.rec (fun _ => α) (k .none) (k .ellipsis) (k .notImplemented) (fun b => fBool b fun b => k (.bool b)) (fun i t => fInt i fun i => fNat t fun t => k (.int i t))
  (fun x t => k (.float x t)) (fun s t => fStr s fun s => fNat t fun t => k (.str s t)) (fun b t => k (.bytes b t)) (fun n => k (.type n)) (fun n => k (.builtin n)) (fun a => fNat a fun a => k (.ref a)) v
theorem fVal_eq (v : Value) (k : Value → α) : fVal v k = k v := by
 cases v <;> (unfold fVal; simp only [fBool_eq, fInt_eq, fNat_eq, fStr_eq])
noncomputable def fEntry (e : DictEntry) (k : DictEntry → α) : α := @DictEntry.rec (fun _ => α) (fun h x v => fVal x fun x => fVal v fun v => k ⟨h, x, v⟩) e
theorem fEntry_eq (e : DictEntry) (k : DictEntry → α) : fEntry e k = k e := by obtain ⟨h, x, v⟩ := e; unfold fEntry; simp only [fVal_eq]
noncomputable def fCellPair (e : Str × Addr) (k : Str × Addr → α) : α := @Prod.rec Str Addr (fun _ => α) (fun x a => fStr x fun x => fNat a fun a => k (x, a)) e
theorem fCellPair_eq (e : Str × Addr) (k : Str × Addr → α) : fCellPair e k = k e := by obtain ⟨x, a⟩ := e; unfold fCellPair; simp only [fStr_eq, fNat_eq]
noncomputable def fFunc (f : FuncData) (k : FuncData → α) : α :=
 @FuncData.rec (fun _ => α) (fun name qual params body scope globals closure defaults kwdefaults doc pyModule annotations code closureTuple builtins =>
  fStr name fun name => fStr qual fun qual => fNat globals fun globals => fList fCellPair closure fun closure => fVal defaults fun defaults => fVal kwdefaults fun kwdefaults => fVal doc fun doc => fVal pyModule fun pyModule =>
  fOpt fNat annotations fun annotations => fVal code fun code => fVal closureTuple fun closureTuple => fNat builtins fun builtins =>
  k ⟨name, qual, params, body, scope, globals, closure, defaults, kwdefaults, doc, pyModule, annotations, code, closureTuple, builtins⟩) f
theorem fFunc_eq (f : FuncData) (k : FuncData → α) : fFunc f k = k f := by
 obtain ⟨a, b, c, d, e, g, h, i, j, l, m, n, o, p, q⟩ := f
 unfold fFunc
 simp only [fStr_eq, fNat_eq, fVal_eq, fList_eq fCellPair_eq, fOpt_eq fNat_eq]
noncomputable def fCls (c : ClassData) (k : ClassData → α) : α :=
 @ClassData.rec (fun _ => α) (fun name bases mro ns qualname hasDict slotNames subclasses abstract collection hasDel =>
  fStr name fun name => fList fVal bases fun bases => fList fVal mro fun mro => fNat ns fun ns => fStr qualname fun qualname => fBool hasDict fun hasDict => fList fStr slotNames fun slotNames => fList fVal subclasses fun subclasses =>
  fBool abstract fun abstract => fOpt fBool collection fun collection => fBool hasDel fun hasDel => k ⟨name, bases, mro, ns, qualname, hasDict, slotNames, subclasses, abstract, collection, hasDel⟩) c
theorem fCls_eq (c : ClassData) (k : ClassData → α) : fCls c k = k c := by
 obtain ⟨a, b, c, d, e, f, g, h, i, j, l⟩ := c
 unfold fCls
 simp only [fStr_eq, fNat_eq, fBool_eq, fList_eq fVal_eq, fList_eq fStr_eq, fOpt_eq fBool_eq]
noncomputable def fData (d : Data) (k : Data → α) : α :=
 @Data.rec (fun _ => α) (k .plain) (fun v => fVal v fun v => k (.prim v)) (fun items n => fArr fVal items fun items => fNat n fun n => k (.seq items n)) (fun es n => fArr fEntry es fun es => fNat n fun n => k (.dict es n))
  (fun es n t => k (.set es n t)) (fun b n => k (.bytearray b n)) (fun v => fOpt fVal v fun v => k (.cell v)) (fun f => fFunc f fun f => k (.func f)) (fun c => fCls c fun c => k (.cls c)) (fun vs => fArr fVal vs fun vs => k (.fields vs)) (k .freed) d
theorem fData_eq (d : Data) (k : Data → α) : fData d k = k d := by
 cases d <;> (unfold fData; simp only [fVal_eq, fArr_eq fVal_eq, fArr_eq fEntry_eq, fNat_eq, fOpt_eq fVal_eq, fFunc_eq, fCls_eq])
noncomputable def fObj (o : Obj) (k : Obj → α) : α :=
 @Obj.rec (fun _ => α) (fun cls dict data slots => fVal cls fun cls => fOpt fNat dict fun dict => fData data fun data => fArr (fOpt fVal) slots fun slots => k ⟨cls, dict, data, slots⟩) o
theorem fObj_eq (o : Obj) (k : Obj → α) : fObj o k = k o := by
 obtain ⟨a, b, c, d⟩ := o
 unfold fObj
 simp only [fVal_eq, fOpt_eq fNat_eq, fData_eq, fArr_eq (fOpt_eq fVal_eq)]
noncomputable def putK (t : BT) (i : Nat) (o : Obj) (k : BT → α) : α :=
 @BT.rec (fun _ => Nat → (BT → α) → α) (fun _ k => k (.node o .nil .nil)) (fun v l r ihl ihr i k =>
  @Bool.rec (fun _ => α) (@Bool.rec (fun _ => α) (fNat (i / 2 - 1) fun j => ihr j fun r => k (.node v l r)) (fNat (i / 2) fun j => ihl j fun l => k (.node v l r)) (Nat.beq (i % 2) 1)) (k (.node o l r)) (Nat.beq i 0)) t i k
theorem putK_eq (t : BT) (i : Nat) (o : Obj) (k : BT → α) : putK t i o k = k (t.ins i o) := by
 induction t generalizing i k with
 | nil => rfl
 | node v l r ihl ihr =>
  show @Bool.rec (fun _ => α) (@Bool.rec (fun _ => α) (fNat (i / 2 - 1) fun j => putK r j o fun r => k (.node v l r)) (fNat (i / 2) fun j => putK l j o fun l => k (.node v l r)) (Nat.beq (i % 2) 1)) (k (.node o l r)) (Nat.beq i 0) = k (match Nat.beq i 0 with
   | true => .node o l r
   | false => match Nat.beq (i % 2) 1 with
    | true => .node v (l.ins (i / 2) o) r
    | false => .node v l (r.ins (i / 2 - 1) o))
  cases Nat.beq i 0 with
  | true => rfl
  | false =>
   cases Nat.beq (i % 2) 1 with
   | true => show fNat (i / 2) _ = _; rw [fNat_eq, ihl]
   | false => show fNat (i / 2 - 1) _ = _; rw [fNat_eq, ihr]
end
theorem set_ins {f : Obj → Obj} : ∀ {t : BT} {a : Nat} {o : Obj}, t.get a = some o → t.set a f = t.ins a (f o)
 | .nil, a, o, h => by cases h
 | .node v l r, a, o, h => by
  rw [BT.get_node] at h
  rw [BT.set_node, BT.ins_node]
  by_cases ha : a = 0
  ·rw [if_pos ha] at h; cases h; rw [if_pos ha, if_pos ha]
  ·rw [if_neg ha] at h
   rw [if_neg ha, if_neg ha]
   by_cases p : a % 2 = 1
   ·rw [if_pos p] at h; rw [if_pos p, if_pos p, set_ins h]
   ·rw [if_neg p] at h; rw [if_neg p, if_neg p, set_ins h]

noncomputable def goOn {α : Type} (T : BT) (n : Nat) (life : Life) (K : SharedT → Thread → Option α) : Step → Option α
 | .go ⟨_, gens, drawn, toks, os⟩ ⟨cur, code, pos, stack⟩ => K ⟨T, n, life, gens, drawn, toks, os⟩ ⟨cur, code, pos, stack⟩
 | .halt _ _ => none
noncomputable def stepS {α : Type} (den : Code → Sem Fin) (p : Program) (w : World) (s : SharedT) (t : Thread) (K : SharedT → Thread → Option α) : Option α :=
 match s, t with
 | ⟨T, n, life, gens, drawn, toks, os⟩, ⟨cur, code, pos, stack⟩ => match cur with
  | .load a _ k => match Nat.blt a n with
   | true => match T.get a with
    | some o => match alive o with
     | some o' => K ⟨T, n, life, gens, drawn, toks, os⟩ ⟨k o', code, pos, stack⟩
     | none => none
    | none => none
   | false => none
  | .update a _ f k => fNat a fun a => match Nat.blt a n with
   | true => match T.get a with
    | some o => match alive o with
     | some _ => fObj (f o) fun o' => putK T a o' fun T => K ⟨T, n, life, gens, drawn, toks, os⟩ ⟨k (), code, pos, stack⟩
     | none => none
    | none => none
   | false => none
  | .alloc o k => fObj o fun o => putK T n o fun T' => match (T'.get n).isSome with
   | true => fNat n fun n => K ⟨T', n + 1, life, gens, drawn, toks, os⟩ ⟨k n, code, pos, stack⟩
   | false => none
  | .fresh k => fNat toks fun toks => K ⟨T, n, life, gens, drawn, toks + 1, os⟩ ⟨k toks, code, pos, stack⟩
  | .loadIfAlive a k => match Nat.blt a n with
   | true => match T.get a with
    | some o => K ⟨T, n, life, gens, drawn, toks, os⟩ ⟨k (alive o), code, pos, stack⟩
    | none => none
   | false => K ⟨T, n, life, gens, drawn, toks, os⟩ ⟨k none, code, pos, stack⟩
  | c => goOn T n life K (step den p w ⟨{}, gens, drawn, toks, os⟩ ⟨c, code, pos, stack⟩)

theorem stepS_other {α : Type} {den : Code → Sem Fin} {p : Program} {w : World} {T : BT} {n : Nat} {life : Life} {gens : Array GenState} {drawn : Drawn} {toks : Nat} {os : OsState} {c : Sem Fin} {code : Code} {pos : Pos} {stack : List Frame} {K : SharedT → Thread → Option α} {r : α}
  (h : goOn T n life K (step den p w ⟨{}, gens, drawn, toks, os⟩ ⟨c, code, pos, stack⟩) = some r) :
  ∃ s₀ t₀, step den p w ⟨{}, gens, drawn, toks, os⟩ ⟨c, code, pos, stack⟩ = .go s₀ t₀ ∧ K ⟨T, n, life, s₀.gens, s₀.drawn, s₀.toks, s₀.os⟩ t₀ = some r := by
 cases q : step den p w ⟨{}, gens, drawn, toks, os⟩ ⟨c, code, pos, stack⟩ with
 | halt o s => rw [q] at h; cases h
 | go s₀ t₀ => rw [q] at h; exact ⟨_, _, rfl, h⟩

theorem oth {α : Type} {den : Code → Sem Fin} {p : Program} {w : World} {T : BT} {n : Nat} {life : Life} {gens : Array GenState} {drawn : Drawn} {toks : Nat} {os : OsState} {c : Sem Fin} {code : Code} {pos : Pos} {stack : List Frame} {K : SharedT → Thread → Option α} {r : α}
  (h : stepS den p w ⟨T, n, life, gens, drawn, toks, os⟩ ⟨c, code, pos, stack⟩ K = some r)
  (e1 : stepS den p w ⟨T, n, life, gens, drawn, toks, os⟩ ⟨c, code, pos, stack⟩ K = goOn T n life K (step den p w ⟨{}, gens, drawn, toks, os⟩ ⟨c, code, pos, stack⟩))
  (e2 : stepT den p w ⟨T, n, life, gens, drawn, toks, os⟩ ⟨c, code, pos, stack⟩ = match step den p w ⟨{}, gens, drawn, toks, os⟩ ⟨c, code, pos, stack⟩ with
   | .go s' t' => some (⟨T, n, life, s'.gens, s'.drawn, s'.toks, s'.os⟩, t')
   | .halt _ _ => none) :
  ∃ s' t', stepT den p w ⟨T, n, life, gens, drawn, toks, os⟩ ⟨c, code, pos, stack⟩ = some (s', t') ∧ K s' t' = some r := by
 rw [e1] at h
 obtain ⟨s₀, t₀, e, h'⟩ := stepS_other h
 exact ⟨_, _, by rw [e2, e], h'⟩
theorem stepS_spec {α : Type} {den : Code → Sem Fin} {p : Program} {w : World} {s : SharedT} {t : Thread} {K : SharedT → Thread → Option α} {r : α} (h : stepS den p w s t K = some r) : ∃ s' t', stepT den p w s t = some (s', t') ∧ K s' t' = some r := by
 obtain ⟨T, n, life, gens, drawn, toks, os⟩ := s
 obtain ⟨cur, code, pos, stack⟩ := t
 cases cur with
 | load a q k =>
  cases e : Nat.blt a n with
  | false =>
   have z : stepS den p w ⟨T, n, life, gens, drawn, toks, os⟩ ⟨.load a q k, code, pos, stack⟩ K = none := by show (match Nat.blt a n with | true => _ | false => _) = _; rw [e]
   rw [z] at h; cases h
  | true =>
   cases g : T.get a with
   | none =>
    have z : stepS den p w ⟨T, n, life, gens, drawn, toks, os⟩ ⟨.load a q k, code, pos, stack⟩ K = none := by show (match Nat.blt a n with | true => _ | false => _) = _; rw [e]; show (match T.get a with | some o => _ | none => _) = _; rw [g]
    rw [z] at h; cases h
   | some o =>
    cases al : alive o with
    | none =>
     have z : stepS den p w ⟨T, n, life, gens, drawn, toks, os⟩ ⟨.load a q k, code, pos, stack⟩ K = none := by show (match Nat.blt a n with | true => _ | false => _) = _; rw [e]; show (match T.get a with | some o => _ | none => _) = _; rw [g]; show (match alive o with | some o' => _ | none => _) = _; rw [al]
     rw [z] at h; cases h
    | some o' =>
     have z : stepS den p w ⟨T, n, life, gens, drawn, toks, os⟩ ⟨.load a q k, code, pos, stack⟩ K = K ⟨T, n, life, gens, drawn, toks, os⟩ ⟨k o', code, pos, stack⟩ := by show (match Nat.blt a n with | true => _ | false => _) = _; rw [e]; show (match T.get a with | some o => _ | none => _) = _; rw [g]; show (match alive o with | some o' => _ | none => _) = _; rw [al]
     rw [z] at h
     exact ⟨_, _, by show (match Nat.blt a n with | true => _ | false => _) = _; rw [e]; show (match T.get a with | some o => _ | none => _) = _; rw [g]; show (match alive o with | some o' => _ | none => _) = _; rw [al], h⟩
 | update a q f k =>
  have y : stepS den p w ⟨T, n, life, gens, drawn, toks, os⟩ ⟨.update a q f k, code, pos, stack⟩ K = (match Nat.blt a n with
   | true => match T.get a with
    | some o => match alive o with
     | some _ => fObj (f o) fun o' => putK T a o' fun T => K ⟨T, n, life, gens, drawn, toks, os⟩ ⟨k (), code, pos, stack⟩
     | none => none
    | none => none
   | false => none) := by
   show fNat a (fun a => match Nat.blt a n with
       | true => match T.get a with
        | some o => match alive o with
         | some _ => fObj (f o) fun o' => putK T a o' fun T => K ⟨T, n, life, gens, drawn, toks, os⟩ ⟨k (), code, pos, stack⟩
         | none => none
        | none => none
       | false => none) = _
   rw [fNat_eq]
  rw [y] at h
  cases e : Nat.blt a n with
  | false => rw [e] at h; cases h
  | true =>
   rw [e] at h
   cases g : T.get a with
   | none => simp only [g] at h; cases h
   | some o =>
    cases al : alive o with
    | none => simp only [g, al] at h; cases h
    | some o' =>
     simp only [g, al, fObj_eq, putK_eq] at h
     rw [← set_ins g] at h
     exact ⟨_, _, by show (match Nat.blt a n with | true => _ | false => _) = _; rw [e]; show (match T.get a with | some o => _ | none => _) = _; rw [g]; show (match alive o with | some o' => _ | none => _) = _; rw [al], h⟩
 | alloc o k =>
  have y : stepS den p w ⟨T, n, life, gens, drawn, toks, os⟩ ⟨.alloc o k, code, pos, stack⟩ K = (match ((T.ins n o).get n).isSome with
   | true => fNat n fun m => K ⟨T.ins n o, m + 1, life, gens, drawn, toks, os⟩ ⟨k m, code, pos, stack⟩
   | false => none) := by
   show fObj o (fun o => putK T n o fun T' => match (T'.get n).isSome with
    | true => fNat n fun m => K ⟨T', m + 1, life, gens, drawn, toks, os⟩ ⟨k m, code, pos, stack⟩
    | false => none) = _
   rw [fObj_eq, putK_eq]
  rw [y] at h
  cases e : ((T.ins n o).get n).isSome with
  | false => rw [e] at h; cases h
  | true =>
   rw [e] at h
   dsimp only at h
   rw [fNat_eq] at h
   exact ⟨_, _, by show (match ((T.ins n o).get n).isSome with | true => _ | false => _) = _; rw [e], h⟩
 | fresh k =>
  have y : stepS den p w ⟨T, n, life, gens, drawn, toks, os⟩ ⟨.fresh k, code, pos, stack⟩ K = K ⟨T, n, life, gens, drawn, toks + 1, os⟩ ⟨k toks, code, pos, stack⟩ := by
   show fNat toks (fun toks => K ⟨T, n, life, gens, drawn, toks + 1, os⟩ ⟨k toks, code, pos, stack⟩) = _
   rw [fNat_eq]
  rw [y] at h
  exact ⟨_, _, rfl, h⟩
 | loadIfAlive a k =>
  cases e : Nat.blt a n with
  | false =>
   have z : stepS den p w ⟨T, n, life, gens, drawn, toks, os⟩ ⟨.loadIfAlive a k, code, pos, stack⟩ K = K ⟨T, n, life, gens, drawn, toks, os⟩ ⟨k none, code, pos, stack⟩ := by show (match Nat.blt a n with | true => _ | false => _) = _; rw [e]
   rw [z] at h
   exact ⟨_, _, by show (match Nat.blt a n with | true => _ | false => _) = _; rw [e], h⟩
  | true =>
   cases g : T.get a with
   | none =>
    have z : stepS den p w ⟨T, n, life, gens, drawn, toks, os⟩ ⟨.loadIfAlive a k, code, pos, stack⟩ K = none := by show (match Nat.blt a n with | true => _ | false => _) = _; rw [e]; show (match T.get a with | some o => _ | none => _) = _; rw [g]
    rw [z] at h; cases h
   | some o =>
    have z : stepS den p w ⟨T, n, life, gens, drawn, toks, os⟩ ⟨.loadIfAlive a k, code, pos, stack⟩ K = K ⟨T, n, life, gens, drawn, toks, os⟩ ⟨k (alive o), code, pos, stack⟩ := by show (match Nat.blt a n with | true => _ | false => _) = _; rw [e]; show (match T.get a with | some o => _ | none => _) = _; rw [g]
    rw [z] at h
    exact ⟨_, _, by show (match Nat.blt a n with | true => _ | false => _) = _; rw [e]; show (match T.get a with | some o => _ | none => _) = _; rw [g], h⟩
 | _ => exact oth h rfl rfl

noncomputable def runS {α : Type} (den : Code → Sem Fin) (p : Program) (w : World) (n₀ : Nat) (ann : Option Value) (F : SharedT → Option α) (n : Nat) : SharedT → Thread → Option α :=
 @Nat.rec (fun _ => SharedT → Thread → Option α) (fun _ _ => none) (fun _ ih s t => match through t with
  | true => F s
  | false => match stepOk n₀ ann t with
   | false => none
   | true => stepS den p w s t ih) n
theorem runS_spec {α : Type} {tb : String → Option Builtin} {p : Program} {w : World} {n₀ : Nat} {ann : Option Value} {F : SharedT → Option α} {r : α} : ∀ {n : Nat} {s : SharedT} {t : Thread}, runS (denote tb) p w n₀ ann F n s t = some r →
  ∃ s', topRun tb p w n₀ ann n s.abs t = some s'.abs ∧ F s' = some r
 | 0, _, _, h => by cases h
 | n + 1, s, t, h => by
  have h' : (match through t with
   | true => F s
   | false => match stepOk n₀ ann t with
    | false => none
    | true => stepS (denote tb) p w s t (runS (denote tb) p w n₀ ann F n)) = some r := h
  unfold topRun
  cases ht : through t with
  | true => rw [ht] at h'; exact ⟨s, rfl, h'⟩
  | false =>
   rw [ht] at h'
   cases hk : stepOk n₀ ann t with
   | false => rw [hk] at h'; cases h'
   | true =>
    rw [hk] at h'
    obtain ⟨s₂, t₂, e, h₂⟩ := stepS_spec h'
    obtain ⟨s', a, b⟩ := runS_spec h₂
    exact ⟨s', by rw [stepT_spec e]; exact a, b⟩
end Pd88.Internal
end
section
open PySem PySem.W PyProof.Rows
set_option maxRecDepth 100000
set_option maxHeartbeats 0
namespace Pd88.Internal
noncomputable def anyL (a : Array Nat) (f : Nat → Bool) (start stop : Nat) : Bool :=
 @Bool.rec (fun _ => Bool) (Array.any a f start stop) (a.toList.any f) (Nat.beq start 0 && Nat.beq stop a.size)
theorem anyL_eq : @Array.any Nat = anyL := by
 funext a f start stop
 unfold anyL
 cases h : (Nat.beq start 0 && Nat.beq stop a.size) with
 | false => rfl
 | true =>
  obtain ⟨h1, h2⟩ := Bool.and_eq_true_iff.mp h
  rw [Nat.eq_of_beq_eq_true h1, Nat.eq_of_beq_eq_true h2]
  exact (Array.any_toList).symm
noncomputable def Wrap (_ : Builtin) : Type := Builtin
abbrev AnyTy := Array Nat → (Nat → Bool) → Nat → Nat → Bool
noncomputable def pick {G : AnyTy → Builtin} : ∀ B : AnyTy, Wrap (G B) := fun _ => G anyL
theorem pick_eq {G : AnyTy → Builtin} : (pick (G := G) (@Array.any Nat) : Builtin) = G (@Array.any Nat) := (congrArg G anyL_eq).symm
noncomputable def tnF : Builtin := (show Wrap Builtin.«type.__new__» from by
 delta Builtin.«type.__new__»
 generalize @Array.any Nat = B
 revert B
 exact pick)
theorem tnF_eq : tnF = Builtin.«type.__new__» := by
 show (id (@pick _ (@Array.any Nat)) : Builtin) = Builtin.«type.__new__»
 exact @pick_eq _
noncomputable def denF (c : Code) : Sem Fin := match c with
 | .builtin id args => if id = "type.__new__" then tnF args else denote treeTable (.builtin id args)
 | c => denote treeTable c
theorem entry_tn : entryFor treeTable "type.__new__" = some Builtin.«type.__new__» := table_eq_tree ▸ entryFor_of_tree (by kernel_rfl)
theorem denote_of_entry {id : String} {args : Args} {b : Builtin} (h : entryFor treeTable id = some b) : denote treeTable (.builtin id args) = b args := by
 unfold denote
 dsimp only
 rw [h]
theorem denF_eq : denF = denote treeTable := by
 funext c
 unfold denF
 cases c with
 | builtin id args =>
  dsimp only
  by_cases h : id = "type.__new__"
  ·subst h
   rw [if_pos rfl, tnF_eq, denote_of_entry entry_tn]
  ·rw [if_neg h]
 | _ => rfl

noncomputable def listK {α : Type} (t : BT) (n : Nat) (k : List Obj → Option α) : Option α :=
 @Nat.rec (fun _ => List Obj → Option α) (fun acc => k acc) (fun i ih acc => match t.get i with
  | some o => ih (o :: acc)
  | none => none) n []
theorem listK_spec {α : Type} {t : BT} {k : List Obj → Option α} {r : α} {n : Nat} (h : listK t n k = some r) : k (t.list n) = some r := by
 have key : ∀ n acc, @Nat.rec (fun _ => List Obj → Option α) (fun acc => k acc) (fun i ih acc => match t.get i with
  | some o => ih (o :: acc)
  | none => none) n acc = some r → k (t.list n ++ acc) = some r := by
  intro n
  induction n with
  | zero => intro acc h; exact h
  | succ n ih =>
   intro acc h
   have h' : (match t.get n with
    | some o => @Nat.rec (fun _ => List Obj → Option α) (fun acc => k acc) (fun i ih acc => match t.get i with
      | some o => ih (o :: acc)
      | none => none) n (o :: acc)
    | none => none) = some r := h
   cases g : t.get n with
   | none => rw [g] at h'; cases h'
   | some o =>
    rw [g] at h'
    have := ih (o :: acc) h'
    unfold BT.list at this ⊢
    rw [List.range_succ, List.map_append, List.append_assoc]
    simpa [g] using this
 have := key n [] h
 rwa [List.append_nil] at this

noncomputable def bootT (P : Params) : BT := (boot_heap P).objs.toList.zipIdx.foldl (fun T x => T.ins x.2 x.1) .nil
noncomputable def s0 (w : World) (os : OsState) : SharedT := ⟨bootT w.params, 11, (boot_heap w.params).life, #[], boot_drawn, boot_toks, os⟩
theorem s0_abs (w : World) (os : OsState) : (s0 w os).abs = ⟨boot_heap w.params, #[], boot_drawn, boot_toks, os⟩ := by kernel_rfl

noncomputable def finF (p q : Program) (loose : List Str) (Xt : Shared → Bool) {α : Type} (Yf : Shared → α) (w : World) (s : SharedT) :=
 match s with
 | ⟨t, n, life, gens, drawn, toks, os⟩ => listK t n fun l =>
  match staticsOk (importedModules p.main.body) (boot_heap w.params) ⟨⟨l⟩, life⟩ && namesBound p ⟨⟨l⟩, life⟩ && gensDone ⟨⟨⟨l⟩, life⟩, gens, drawn, toks, os⟩ && laidKept (boot_heap w.params) ⟨⟨l⟩, life⟩ with
  | true => some (openSeen q loose (importedModules p.main.body) Xt true ⟨⟨⟨l⟩, life⟩, gens, drawn, toks, os⟩, Yf ⟨⟨⟨l⟩, life⟩, gens, drawn, toks, os⟩)
  | false => none

theorem left_of_run {p q : Program} {loose : List Str} {Xt : Shared → Bool} {α : Type} {Yf : Shared → α} {Ya : World → α} {N : Nat} {ann : Option Value}
  (open_ : ∀ w : World, (fencedOpening treeTable p w N).map (fun s => (s.heap, s.gens, s.drawn, s.toks)) = some (boot_heap w.params, Array.mk [], boot_drawn, boot_toks))
  (size : ∀ w : World, ((boot_heap w.params).isNs mainGlobals, (boot_heap w.params).objs.size, (boot_heap w.params).nsMap mainGlobals "__annotations__") = (true, 11, ann))
  (run : ∀ (w : World) (os : OsState), runS denF p w 11 ann (finF p q loose Xt Yf w) N (s0 w os) (topStub p) = some (openGood q loose, Ya w)) : LeftO p q loose Xt Yf Ya N := fun w => by
 obtain ⟨⟨h, gs, d, k, os⟩, e, e'⟩ := Option.map_eq_some_iff.mp (open_ w)
 obtain ⟨rfl, rfl, rfl, rfl⟩ : h = boot_heap w.params ∧ gs = #[] ∧ d = boot_drawn ∧ k = boot_toks := by simpa using e'
 obtain ⟨z1, z2, z3⟩ : _ ∧ _ ∧ _ := by simpa only [Prod.mk.injEq] using size w
 have r := run w os
 rw [denF_eq] at r
 obtain ⟨⟨t, n, life, gens, drawn, toks, os'⟩, r1, r2⟩ := runS_spec r
 rw [s0_abs] at r1
 have r3 := listK_spec r2
 cases c : (staticsOk (importedModules p.main.body) (boot_heap w.params) ⟨⟨t.list n⟩, life⟩ && namesBound p ⟨⟨t.list n⟩, life⟩ && gensDone ⟨⟨⟨t.list n⟩, life⟩, gens, drawn, toks, os'⟩ && laidKept (boot_heap w.params) ⟨⟨t.list n⟩, life⟩) with
 | false => rw [c] at r3; cases r3
 | true =>
  rw [c] at r3
  have tf : topFrom treeTable p w N ⟨boot_heap w.params, #[], boot_drawn, boot_toks, os⟩ = some ⟨⟨⟨t.list n⟩, life⟩, gens, drawn, toks, os'⟩ := by
   unfold topFrom
   dsimp only
   rw [z1, z2, z3, r1]
   show (match staticsOk (importedModules p.main.body) (boot_heap w.params) ⟨⟨t.list n⟩, life⟩ && namesBound p ⟨⟨t.list n⟩, life⟩ && gensDone ⟨⟨⟨t.list n⟩, life⟩, gens, drawn, toks, os'⟩ && laidKept (boot_heap w.params) ⟨⟨t.list n⟩, life⟩ with | true => _ | false => _) = _
   rw [c]
   rfl
  unfold openEnds
  rw [e]
  show (topFrom treeTable p w N _).map _ = _
  rw [tf]
  exact r3
end Pd88.Internal
end
section
open PySem PySem.W PyProof.Rows
set_option maxRecDepth 100000
set_option maxHeartbeats 0
set_option linter.unusedVariables false
namespace Pd88.Internal
noncomputable def nth (l : List Stmt) (i : Nat) : Stmt := l.getD i (.Pass default)
abbrev pw : Program := PySem.Challenge.pw_pd0088_01
noncomputable def bodyOf (s : Stmt) : List Stmt := match s with
 | .FunctionDef _ _ b .. => b
 | .ClassDef _ _ _ b .. => b
 | .For _ _ b .. => b
 | .If _ b .. => b
 | .While _ b .. => b
 | _ => []
noncomputable def fArgs (s : Stmt) : Arguments := match s with
 | .FunctionDef _ a .. => a
 | _ => default
noncomputable def fScope (s : Stmt) : Scope := match s with
 | .FunctionDef _ _ _ _ _ _ sc .. => sc
 | _ => default
noncomputable def docS (s : Stmt) : Str := (docOf (bodyOf s)).getD Str.empty
noncomputable def E (P : Params) (k : Str) (t : Tok) (v : Value) : DictEntry := ⟨PyData.keyHash P k, .str k t, v⟩
noncomputable def o2 (P : Params) : Obj := ⟨.none, none, (.dict ⟨[]⟩ 0), ⟨[]⟩⟩
noncomputable def o3 (P : Params) : Obj := ⟨(.type "dict"), none, (.dict ⟨[E P (.ofString "__name__") 165 (.str (.ofString "law_pd0088_01") 724), E P (.ofString "__doc__") 166 .none, E P (.ofString "__package__") 167 .none, E P (.ofString "__loader__") 168 (.builtin "__main__.__loader__#opaque"), E P (.ofString "__spec__") 169 .none, E P (.ofString "__annotations__") 170 (.ref 6), E P (.ofString "__builtins__") 171 (.ref 4), E P (.ofString "__file__") 173 (.str (.ofString "/claim/cut.py") 172), E P (.ofString "__cached__") 174 .none, E P (.ofString "_wall") 193 (.ref 21), E P (.ofString "_tuplegetter") 252 (.ref 60), E P (.ofString "Match") 380 (.ref 135), E P (.ofString "_calculate_ratio") 388 (.ref 145), E P (.ofString "SequenceMatcher") 574 (.ref 242), E P (.ofString "_plain_name") 585 (.ref 253), E P (.ofString "ABCMeta") 611 (.ref 270), E P (.ofString "_ABCLike") 654 (.ref 303), E P (.ofString "_abc_plain_meta") 661 (.ref 312), E P (.ofString "fspath") 673 (.ref 319), E P (.ofString "_check_arg_types") 686 (.ref 326), E P (.ofString "_get_sep") 695 (.ref 333), E P (.ofString "basename") 705 (.ref 340), E P (.ofString "dirname") 716 (.ref 347), E P (.ofString "commonpath") 723 (.ref 352), E P (.ofString "_law_rows") 735 (.ref 359), E P (.ofString "_law_text") 747 (.ref 366), E P (.ofString "_law_up") 755 (.ref 373), E P (.ofString "_law_same") 764 (.ref 380), E P (.ofString "_law_window") 770 (.ref 385), E P (.ofString "_law_blocks") 788 (.ref 392), E P (.ofString "law") 794 (.ref 397)]⟩ 31), ⟨[]⟩⟩
noncomputable def o21 (P : Params) : Obj := ⟨(.type "function"), none, (.func ⟨(.ofString "_wall"), (.ofString "_wall"), fArgs (nth pw.main.body 0), .stmts (bodyOf (nth pw.main.body 0)), fScope (nth pw.main.body 0), 3, [], .none, .none, .none, (.str (.ofString "__main__") 164), none, (.ref 20), .none, 0⟩), ⟨[]⟩⟩
noncomputable def o35 (P : Params) : Obj := ⟨(.type "function"), none, (.func ⟨(.ofString "__init__"), (.ofString "_tuplegetter.__init__"), fArgs (nth (bodyOf (nth pw.main.body 2)) 0), .stmts (bodyOf (nth (bodyOf (nth pw.main.body 2)) 0)), fScope (nth (bodyOf (nth pw.main.body 2)) 0), 3, [], .none, .none, .none, (.str (.ofString "cpy313.difflib") 194), none, (.ref 34), .none, 0⟩), ⟨[]⟩⟩
noncomputable def o36 (P : Params) : Obj := ⟨(.type "tuple"), none, (.seq ⟨[.none]⟩ 0), ⟨[]⟩⟩
noncomputable def o43 (P : Params) : Obj := ⟨(.type "function"), none, (.func ⟨(.ofString "__get__"), (.ofString "_tuplegetter.__get__"), fArgs (nth (bodyOf (nth pw.main.body 2)) 1), .stmts (bodyOf (nth (bodyOf (nth pw.main.body 2)) 1)), fScope (nth (bodyOf (nth pw.main.body 2)) 1), 3, [], (.ref 36), .none, .none, (.str (.ofString "cpy313.difflib") 194), none, (.ref 42), .none, 0⟩), ⟨[]⟩⟩
noncomputable def o50 (P : Params) : Obj := ⟨(.type "function"), none, (.func ⟨(.ofString "__set__"), (.ofString "_tuplegetter.__set__"), fArgs (nth (bodyOf (nth pw.main.body 2)) 2), .stmts (bodyOf (nth (bodyOf (nth pw.main.body 2)) 2)), fScope (nth (bodyOf (nth pw.main.body 2)) 2), 3, [], .none, .none, .none, (.str (.ofString "cpy313.difflib") 194), none, (.ref 49), .none, 0⟩), ⟨[]⟩⟩
noncomputable def o57 (P : Params) : Obj := ⟨(.type "function"), none, (.func ⟨(.ofString "__delete__"), (.ofString "_tuplegetter.__delete__"), fArgs (nth (bodyOf (nth pw.main.body 2)) 3), .stmts (bodyOf (nth (bodyOf (nth pw.main.body 2)) 3)), fScope (nth (bodyOf (nth pw.main.body 2)) 3), 3, [], .none, .none, .none, (.str (.ofString "cpy313.difflib") 194), none, (.ref 56), .none, 0⟩), ⟨[]⟩⟩
noncomputable def o59 (P : Params) : Obj := ⟨(.type "dict"), none, (.dict ⟨[E P (.ofString "__module__") 203 (.str (.ofString "cpy313.difflib") 194), E P (.ofString "__firstlineno__") 207 (.int (5) 206), E P (.ofString "__init__") 216 (.ref 35), E P (.ofString "__get__") 225 (.ref 43), E P (.ofString "__set__") 234 (.ref 50), E P (.ofString "__delete__") 242 (.ref 57), E P (.ofString "__static_attributes__") 245 (.ref 58), E P (.ofString "__dict__") 247 (.ref 61), E P (.ofString "__weakref__") 249 (.ref 62), E P (.ofString "__doc__") 250 .none]⟩ 4), ⟨[]⟩⟩
noncomputable def o60 (P : Params) : Obj := ⟨(.type "type"), none, (.cls ⟨(.ofString "_tuplegetter"), [(.type "object")], [(.ref 60), (.type "object")], 59, (.ofString "_tuplegetter"), true, [], [], false, none, false⟩), ⟨[none, none, (some (.str (.ofString "_tuplegetter") 196)), (some (.str (.ofString "_tuplegetter") 204)), (some (.builtin "object.__new__")), (some (.bool true))]⟩⟩
noncomputable def o61 (P : Params) : Obj := ⟨(.type "getset_descriptor"), none, (.fields ⟨[(.str (.ofString "__dict__") 246), (.ref 60), (.builtin "function.__dict__"), (.builtin "function.__dict__#set")]⟩), ⟨[]⟩⟩
noncomputable def o62 (P : Params) : Obj := ⟨(.type "getset_descriptor"), none, (.fields ⟨[(.str (.ofString "__weakref__") 248), (.ref 60), (.builtin "ExceptionGroup.__weakref__"), .none]⟩), ⟨[]⟩⟩
noncomputable def o65 (P : Params) : Obj := ⟨(.type "tuple"), none, (.seq ⟨[(.type "tuple")]⟩ 0), ⟨[]⟩⟩
noncomputable def o68 (P : Params) : Obj := ⟨(.type "cell"), none, (.cell (some (.ref 135))), ⟨[]⟩⟩
noncomputable def o75 (P : Params) : Obj := ⟨(.type "dict"), none, (.dict ⟨[]⟩ 0), ⟨[]⟩⟩
noncomputable def o82 (P : Params) : Obj := ⟨(.type "function"), none, (.func ⟨(.ofString "__new__"), (.ofString "Match.__new__"), fArgs (nth (bodyOf (nth pw.main.body 3)) 4), .stmts (bodyOf (nth (bodyOf (nth pw.main.body 3)) 4)), fScope (nth (bodyOf (nth pw.main.body 3)) 4), 3, [], .none, .none, (.str (docS (nth (bodyOf (nth pw.main.body 3)) 4)) 283), (.str (.ofString "cpy313.difflib") 194), none, (.ref 81), .none, 0⟩), ⟨[]⟩⟩
noncomputable def o89 (P : Params) : Obj := ⟨(.type "function"), none, (.func ⟨(.ofString "_make"), (.ofString "Match._make"), fArgs (nth (bodyOf (nth pw.main.body 3)) 5), .stmts (bodyOf (nth (bodyOf (nth pw.main.body 3)) 5)), fScope (nth (bodyOf (nth pw.main.body 3)) 5), 3, [], .none, .none, (.str (docS (nth (bodyOf (nth pw.main.body 3)) 5)) 293), (.str (.ofString "cpy313.difflib") 194), (some 92), (.ref 88), .none, 0⟩), ⟨[]⟩⟩
noncomputable def o90 (P : Params) : Obj := ⟨(.type "dict"), none, (.dict ⟨[E P (.ofString "__module__") 295 (.str (.ofString "cpy313.difflib") 194), E P (.ofString "__name__") 298 (.str (.ofString "_make") 297), E P (.ofString "__qualname__") 301 (.str (.ofString "Match._make") 300), E P (.ofString "__doc__") 303 (.str (docS (nth (bodyOf (nth pw.main.body 3)) 5)) 293), E P (.ofString "__annotations__") 305 (.ref 92)]⟩ 5), ⟨[]⟩⟩
noncomputable def o91 (P : Params) : Obj := ⟨(.type "classmethod"), (some 90), (.fields ⟨[(.ref 89), (.bool false)]⟩), ⟨[]⟩⟩
noncomputable def o92 (P : Params) : Obj := ⟨(.type "dict"), none, (.dict ⟨[]⟩ 0), ⟨[]⟩⟩
noncomputable def o93 (P : Params) : Obj := ⟨(.type "tuple"), none, (.seq ⟨[(.ref 68)]⟩ 0), ⟨[]⟩⟩
noncomputable def o100 (P : Params) : Obj := ⟨(.type "function"), none, (.func ⟨(.ofString "_replace"), (.ofString "Match._replace"), fArgs (nth (bodyOf (nth pw.main.body 3)) 6), .stmts (bodyOf (nth (bodyOf (nth pw.main.body 3)) 6)), fScope (nth (bodyOf (nth pw.main.body 3)) 6), 3, [((.ofString "__class__"), 68)], .none, .none, (.str (docS (nth (bodyOf (nth pw.main.body 3)) 6)) 316), (.str (.ofString "cpy313.difflib") 194), none, (.ref 99), (.ref 93), 0⟩), ⟨[]⟩⟩
noncomputable def o107 (P : Params) : Obj := ⟨(.type "function"), none, (.func ⟨(.ofString "__repr__"), (.ofString "Match.__repr__"), fArgs (nth (bodyOf (nth pw.main.body 3)) 8), .stmts (bodyOf (nth (bodyOf (nth pw.main.body 3)) 8)), fScope (nth (bodyOf (nth pw.main.body 3)) 8), 3, [], .none, .none, (.str (docS (nth (bodyOf (nth pw.main.body 3)) 8)) 325), (.str (.ofString "cpy313.difflib") 194), none, (.ref 106), .none, 0⟩), ⟨[]⟩⟩
noncomputable def o114 (P : Params) : Obj := ⟨(.type "function"), none, (.func ⟨(.ofString "_asdict"), (.ofString "Match._asdict"), fArgs (nth (bodyOf (nth pw.main.body 3)) 9), .stmts (bodyOf (nth (bodyOf (nth pw.main.body 3)) 9)), fScope (nth (bodyOf (nth pw.main.body 3)) 9), 3, [], .none, .none, .none, (.str (.ofString "cpy313.difflib") 194), none, (.ref 113), .none, 0⟩), ⟨[]⟩⟩
noncomputable def o121 (P : Params) : Obj := ⟨(.type "function"), none, (.func ⟨(.ofString "__getnewargs__"), (.ofString "Match.__getnewargs__"), fArgs (nth (bodyOf (nth pw.main.body 3)) 10), .stmts (bodyOf (nth (bodyOf (nth pw.main.body 3)) 10)), fScope (nth (bodyOf (nth pw.main.body 3)) 10), 3, [], .none, .none, (.str (docS (nth (bodyOf (nth pw.main.body 3)) 10)) 340), (.str (.ofString "cpy313.difflib") 194), none, (.ref 120), .none, 0⟩), ⟨[]⟩⟩
noncomputable def o123 (P : Params) : Obj := ⟨(.type "dict"), none, (.dict ⟨[E P (.ofString "index") 352 (.int (0) 346), E P (.ofString "__doc__") 354 (.str (.ofString "Alias for field number 0") 347)]⟩ 2), ⟨[]⟩⟩
noncomputable def o124 (P : Params) : Obj := ⟨(.ref 60), (some 123), .plain, ⟨[]⟩⟩
noncomputable def o126 (P : Params) : Obj := ⟨(.type "dict"), none, (.dict ⟨[E P (.ofString "index") 362 (.int (1) 356), E P (.ofString "__doc__") 364 (.str (.ofString "Alias for field number 1") 357)]⟩ 2), ⟨[]⟩⟩
noncomputable def o127 (P : Params) : Obj := ⟨(.ref 60), (some 126), .plain, ⟨[]⟩⟩
noncomputable def o129 (P : Params) : Obj := ⟨(.type "dict"), none, (.dict ⟨[E P (.ofString "index") 372 (.int (2) 366), E P (.ofString "__doc__") 374 (.str (.ofString "Alias for field number 2") 367)]⟩ 2), ⟨[]⟩⟩
noncomputable def o130 (P : Params) : Obj := ⟨(.ref 60), (some 129), .plain, ⟨[]⟩⟩
noncomputable def o134 (P : Params) : Obj := ⟨(.type "dict"), none, (.dict ⟨[E P (.ofString "__module__") 260 (.str (.ofString "cpy313.difflib") 194), E P (.ofString "__firstlineno__") 264 (.int (23) 263), E P (.ofString "__doc__") 266 (.str (docS (nth pw.main.body 3)) 265), E P (.ofString "__slots__") 268 (.ref 73), E P (.ofString "_fields") 272 (.ref 74), E P (.ofString "_field_defaults") 273 (.ref 75), E P (.ofString "__new__") 284 (.ref 136), E P (.ofString "_make") 306 (.ref 91), E P (.ofString "_replace") 317 (.ref 100), E P (.ofString "__replace__") 318 (.ref 100), E P (.ofString "__repr__") 326 (.ref 107), E P (.ofString "_asdict") 333 (.ref 114), E P (.ofString "__getnewargs__") 341 (.ref 121), E P (.ofString "__match_args__") 345 (.ref 122), E P (.ofString "a") 355 (.ref 124), E P (.ofString "b") 365 (.ref 127), E P (.ofString "size") 375 (.ref 130), E P (.ofString "__static_attributes__") 376 (.ref 132)]⟩ 2), ⟨[]⟩⟩
noncomputable def o135 (P : Params) : Obj := ⟨(.type "type"), none, (.cls ⟨(.ofString "Match"), [(.type "tuple")], [(.ref 135), (.type "tuple"), (.type "object")], 134, (.ofString "Match"), false, [], [], false, none, false⟩), ⟨[(some (.ref 65)), none, (some (.str (.ofString "Match") 253)), (some (.str (.ofString "Match") 261)), (some .none), (some (.bool false))]⟩⟩
noncomputable def o136 (P : Params) : Obj := ⟨(.type "staticmethod"), none, (.fields ⟨[(.ref 82)]⟩), ⟨[]⟩⟩
noncomputable def o145 (P : Params) : Obj := ⟨(.type "function"), none, (.func ⟨(.ofString "_calculate_ratio"), (.ofString "_calculate_ratio"), fArgs (nth pw.main.body 4), .stmts (bodyOf (nth pw.main.body 4)), fScope (nth pw.main.body 4), 3, [], .none, .none, .none, (.str (.ofString "cpy313.difflib") 194), none, (.ref 144), .none, 0⟩), ⟨[]⟩⟩
noncomputable def o153 (P : Params) : Obj := ⟨(.type "tuple"), none, (.seq ⟨[.none, (.str (.ofString "") 404), (.str (.ofString "") 405), (.bool true)]⟩ 0), ⟨[]⟩⟩
noncomputable def o160 (P : Params) : Obj := ⟨(.type "function"), none, (.func ⟨(.ofString "__init__"), (.ofString "SequenceMatcher.__init__"), fArgs (nth (bodyOf (nth pw.main.body 5)) 1), .stmts (bodyOf (nth (bodyOf (nth pw.main.body 5)) 1)), fScope (nth (bodyOf (nth pw.main.body 5)) 1), 3, [], (.ref 153), .none, (.str (docS (nth (bodyOf (nth pw.main.body 5)) 1)) 416), (.str (.ofString "cpy313.difflib") 194), none, (.ref 159), .none, 0⟩), ⟨[]⟩⟩
noncomputable def o167 (P : Params) : Obj := ⟨(.type "function"), none, (.func ⟨(.ofString "set_seqs"), (.ofString "SequenceMatcher.set_seqs"), fArgs (nth (bodyOf (nth pw.main.body 5)) 2), .stmts (bodyOf (nth (bodyOf (nth pw.main.body 5)) 2)), fScope (nth (bodyOf (nth pw.main.body 5)) 2), 3, [], .none, .none, (.str (docS (nth (bodyOf (nth pw.main.body 5)) 2)) 426), (.str (.ofString "cpy313.difflib") 194), none, (.ref 166), .none, 0⟩), ⟨[]⟩⟩
noncomputable def o174 (P : Params) : Obj := ⟨(.type "function"), none, (.func ⟨(.ofString "set_seq1"), (.ofString "SequenceMatcher.set_seq1"), fArgs (nth (bodyOf (nth pw.main.body 5)) 3), .stmts (bodyOf (nth (bodyOf (nth pw.main.body 5)) 3)), fScope (nth (bodyOf (nth pw.main.body 5)) 3), 3, [], .none, .none, (.str (docS (nth (bodyOf (nth pw.main.body 5)) 3)) 435), (.str (.ofString "cpy313.difflib") 194), none, (.ref 173), .none, 0⟩), ⟨[]⟩⟩
noncomputable def o181 (P : Params) : Obj := ⟨(.type "function"), none, (.func ⟨(.ofString "set_seq2"), (.ofString "SequenceMatcher.set_seq2"), fArgs (nth (bodyOf (nth pw.main.body 5)) 4), .stmts (bodyOf (nth (bodyOf (nth pw.main.body 5)) 4)), fScope (nth (bodyOf (nth pw.main.body 5)) 4), 3, [], .none, .none, (.str (docS (nth (bodyOf (nth pw.main.body 5)) 4)) 444), (.str (.ofString "cpy313.difflib") 194), none, (.ref 180), .none, 0⟩), ⟨[]⟩⟩
noncomputable def o188 (P : Params) : Obj := ⟨(.type "function"), none, (.func ⟨(.ofString "__chain_b"), (.ofString "SequenceMatcher.__chain_b"), fArgs (nth (bodyOf (nth pw.main.body 5)) 5), .stmts (bodyOf (nth (bodyOf (nth pw.main.body 5)) 5)), fScope (nth (bodyOf (nth pw.main.body 5)) 5), 3, [], .none, .none, .none, (.str (.ofString "cpy313.difflib") 194), none, (.ref 187), .none, 0⟩), ⟨[]⟩⟩
noncomputable def o189 (P : Params) : Obj := ⟨(.type "tuple"), none, (.seq ⟨[(.int (0) 464), .none, (.int (0) 465), .none]⟩ 0), ⟨[]⟩⟩
noncomputable def o196 (P : Params) : Obj := ⟨(.type "function"), none, (.func ⟨(.ofString "find_longest_match"), (.ofString "SequenceMatcher.find_longest_match"), fArgs (nth (bodyOf (nth pw.main.body 5)) 6), .stmts (bodyOf (nth (bodyOf (nth pw.main.body 5)) 6)), fScope (nth (bodyOf (nth pw.main.body 5)) 6), 3, [], (.ref 189), .none, (.str (docS (nth (bodyOf (nth pw.main.body 5)) 6)) 490), (.str (.ofString "cpy313.difflib") 194), none, (.ref 195), .none, 0⟩), ⟨[]⟩⟩
noncomputable def o203 (P : Params) : Obj := ⟨(.type "function"), none, (.func ⟨(.ofString "get_matching_blocks"), (.ofString "SequenceMatcher.get_matching_blocks"), fArgs (nth (bodyOf (nth pw.main.body 5)) 7), .stmts (bodyOf (nth (bodyOf (nth pw.main.body 5)) 7)), fScope (nth (bodyOf (nth pw.main.body 5)) 7), 3, [], .none, .none, (.str (docS (nth (bodyOf (nth pw.main.body 5)) 7)) 517), (.str (.ofString "cpy313.difflib") 194), none, (.ref 202), .none, 0⟩), ⟨[]⟩⟩
noncomputable def o210 (P : Params) : Obj := ⟨(.type "function"), none, (.func ⟨(.ofString "get_opcodes"), (.ofString "SequenceMatcher.get_opcodes"), fArgs (nth (bodyOf (nth pw.main.body 5)) 8), .stmts (bodyOf (nth (bodyOf (nth pw.main.body 5)) 8)), fScope (nth (bodyOf (nth pw.main.body 5)) 8), 3, [], .none, .none, .none, (.str (.ofString "cpy313.difflib") 194), none, (.ref 209), .none, 0⟩), ⟨[]⟩⟩
noncomputable def o211 (P : Params) : Obj := ⟨(.type "tuple"), none, (.seq ⟨[(.int (3) 526)]⟩ 0), ⟨[]⟩⟩
noncomputable def o218 (P : Params) : Obj := ⟨(.type "function"), none, (.func ⟨(.ofString "get_grouped_opcodes"), (.ofString "SequenceMatcher.get_grouped_opcodes"), fArgs (nth (bodyOf (nth pw.main.body 5)) 9), .stmts (bodyOf (nth (bodyOf (nth pw.main.body 5)) 9)), fScope (nth (bodyOf (nth pw.main.body 5)) 9), 3, [], (.ref 211), .none, .none, (.str (.ofString "cpy313.difflib") 194), none, (.ref 217), .none, 0⟩), ⟨[]⟩⟩
noncomputable def o225 (P : Params) : Obj := ⟨(.type "function"), none, (.func ⟨(.ofString "ratio"), (.ofString "SequenceMatcher.ratio"), fArgs (nth (bodyOf (nth pw.main.body 5)) 10), .stmts (bodyOf (nth (bodyOf (nth pw.main.body 5)) 10)), fScope (nth (bodyOf (nth pw.main.body 5)) 10), 3, [], .none, .none, (.str (docS (nth (bodyOf (nth pw.main.body 5)) 10)) 542), (.str (.ofString "cpy313.difflib") 194), none, (.ref 224), .none, 0⟩), ⟨[]⟩⟩
noncomputable def o232 (P : Params) : Obj := ⟨(.type "function"), none, (.func ⟨(.ofString "quick_ratio"), (.ofString "SequenceMatcher.quick_ratio"), fArgs (nth (bodyOf (nth pw.main.body 5)) 11), .stmts (bodyOf (nth (bodyOf (nth pw.main.body 5)) 11)), fScope (nth (bodyOf (nth pw.main.body 5)) 11), 3, [], .none, .none, .none, (.str (.ofString "cpy313.difflib") 194), none, (.ref 231), .none, 0⟩), ⟨[]⟩⟩
noncomputable def o239 (P : Params) : Obj := ⟨(.type "function"), none, (.func ⟨(.ofString "real_quick_ratio"), (.ofString "SequenceMatcher.real_quick_ratio"), fArgs (nth (bodyOf (nth pw.main.body 5)) 12), .stmts (bodyOf (nth (bodyOf (nth pw.main.body 5)) 12)), fScope (nth (bodyOf (nth pw.main.body 5)) 12), 3, [], .none, .none, .none, (.str (.ofString "cpy313.difflib") 194), none, (.ref 238), .none, 0⟩), ⟨[]⟩⟩
noncomputable def o241 (P : Params) : Obj := ⟨(.type "dict"), none, (.dict ⟨[E P (.ofString "__module__") 396 (.str (.ofString "cpy313.difflib") 194), E P (.ofString "__firstlineno__") 400 (.int (70) 399), E P (.ofString "__doc__") 402 (.str (docS (nth pw.main.body 5)) 401), E P (.ofString "__init__") 417 (.ref 160), E P (.ofString "set_seqs") 427 (.ref 167), E P (.ofString "set_seq1") 436 (.ref 174), E P (.ofString "set_seq2") 445 (.ref 181), E P (.ofString "_SequenceMatcher__chain_b") 463 (.ref 188), E P (.ofString "find_longest_match") 491 (.ref 196), E P (.ofString "get_matching_blocks") 518 (.ref 203), E P (.ofString "get_opcodes") 525 (.ref 210), E P (.ofString "get_grouped_opcodes") 534 (.ref 218), E P (.ofString "ratio") 543 (.ref 225), E P (.ofString "quick_ratio") 550 (.ref 232), E P (.ofString "real_quick_ratio") 557 (.ref 239), E P (.ofString "__static_attributes__") 568 (.ref 240), E P (.ofString "__dict__") 570 (.ref 243), E P (.ofString "__weakref__") 572 (.ref 244)]⟩ 3), ⟨[]⟩⟩
noncomputable def o242 (P : Params) : Obj := ⟨(.type "type"), none, (.cls ⟨(.ofString "SequenceMatcher"), [(.type "object")], [(.ref 242), (.type "object")], 241, (.ofString "SequenceMatcher"), true, [], [], false, none, false⟩), ⟨[none, none, (some (.str (.ofString "SequenceMatcher") 389)), (some (.str (.ofString "SequenceMatcher") 397)), (some (.builtin "object.__new__")), (some (.bool true))]⟩⟩
noncomputable def o243 (P : Params) : Obj := ⟨(.type "getset_descriptor"), none, (.fields ⟨[(.str (.ofString "__dict__") 569), (.ref 242), (.builtin "function.__dict__"), (.builtin "function.__dict__#set")]⟩), ⟨[]⟩⟩
noncomputable def o244 (P : Params) : Obj := ⟨(.type "getset_descriptor"), none, (.fields ⟨[(.str (.ofString "__weakref__") 571), (.ref 242), (.builtin "ExceptionGroup.__weakref__"), .none]⟩), ⟨[]⟩⟩
noncomputable def o253 (P : Params) : Obj := ⟨(.type "function"), none, (.func ⟨(.ofString "_plain_name"), (.ofString "_plain_name"), fArgs (nth pw.main.body 7), .stmts (bodyOf (nth pw.main.body 7)), fScope (nth pw.main.body 7), 3, [], .none, .none, .none, (.str (.ofString "os") 575), none, (.ref 252), .none, 0⟩), ⟨[]⟩⟩
noncomputable def o254 (P : Params) : Obj := ⟨(.type "tuple"), none, (.seq ⟨[(.type "type")]⟩ 0), ⟨[]⟩⟩
noncomputable def o267 (P : Params) : Obj := ⟨(.type "function"), none, (.func ⟨(.ofString "register"), (.ofString "ABCMeta.register"), fArgs (nth (bodyOf (nth pw.main.body 9)) 0), .stmts (bodyOf (nth (bodyOf (nth pw.main.body 9)) 0)), fScope (nth (bodyOf (nth pw.main.body 9)) 0), 3, [], .none, .none, .none, (.str (.ofString "abc") 586), none, (.ref 266), .none, 0⟩), ⟨[]⟩⟩
noncomputable def o269 (P : Params) : Obj := ⟨(.type "dict"), none, (.dict ⟨[E P (.ofString "__module__") 595 (.str (.ofString "abc") 586), E P (.ofString "__firstlineno__") 599 (.int (425) 598), E P (.ofString "register") 607 (.ref 267), E P (.ofString "__static_attributes__") 608 (.ref 268), E P (.ofString "__doc__") 609 .none]⟩ 2), ⟨[]⟩⟩
noncomputable def o270 (P : Params) : Obj := ⟨(.type "type"), none, (.cls ⟨(.ofString "ABCMeta"), [(.type "type")], [(.ref 270), (.type "type"), (.type "object")], 269, (.ofString "ABCMeta"), true, [], [(.ref 303)], false, none, false⟩), ⟨[(some (.ref 254)), none, (some (.str (.ofString "ABCMeta") 588)), (some (.str (.ofString "ABCMeta") 596)), (some (.builtin "type.__new__")), (some (.bool true))]⟩⟩
noncomputable def o273 (P : Params) : Obj := ⟨(.type "tuple"), none, (.seq ⟨[(.ref 270)]⟩ 0), ⟨[]⟩⟩
noncomputable def o286 (P : Params) : Obj := ⟨(.type "function"), none, (.func ⟨(.ofString "__instancecheck__"), (.ofString "_ABCLike.__instancecheck__"), fArgs (nth (bodyOf (nth pw.main.body 11)) 0), .stmts (bodyOf (nth (bodyOf (nth pw.main.body 11)) 0)), fScope (nth (bodyOf (nth pw.main.body 11)) 0), 3, [], .none, .none, .none, (.str (.ofString "collections.abc") 612), none, (.ref 285), .none, 0⟩), ⟨[]⟩⟩
noncomputable def o293 (P : Params) : Obj := ⟨(.type "function"), none, (.func ⟨(.ofString "__subclasscheck__"), (.ofString "_ABCLike.__subclasscheck__"), fArgs (nth (bodyOf (nth pw.main.body 11)) 1), .stmts (bodyOf (nth (bodyOf (nth pw.main.body 11)) 1)), fScope (nth (bodyOf (nth pw.main.body 11)) 1), 3, [], .none, .none, .none, (.str (.ofString "collections.abc") 612), none, (.ref 292), .none, 0⟩), ⟨[]⟩⟩
noncomputable def o300 (P : Params) : Obj := ⟨(.type "function"), none, (.func ⟨(.ofString "register"), (.ofString "_ABCLike.register"), fArgs (nth (bodyOf (nth pw.main.body 11)) 2), .stmts (bodyOf (nth (bodyOf (nth pw.main.body 11)) 2)), fScope (nth (bodyOf (nth pw.main.body 11)) 2), 3, [], .none, .none, .none, (.str (.ofString "collections.abc") 612), none, (.ref 299), .none, 0⟩), ⟨[]⟩⟩
noncomputable def o302 (P : Params) : Obj := ⟨(.type "dict"), none, (.dict ⟨[E P (.ofString "__module__") 621 (.str (.ofString "collections.abc") 612), E P (.ofString "__firstlineno__") 625 (.int (430) 624), E P (.ofString "__instancecheck__") 634 (.ref 286), E P (.ofString "__subclasscheck__") 642 (.ref 293), E P (.ofString "register") 650 (.ref 300), E P (.ofString "__static_attributes__") 651 (.ref 301), E P (.ofString "__doc__") 652 .none]⟩ 2), ⟨[]⟩⟩
noncomputable def o303 (P : Params) : Obj := ⟨(.type "type"), none, (.cls ⟨(.ofString "_ABCLike"), [(.ref 270)], [(.ref 303), (.ref 270), (.type "type"), (.type "object")], 302, (.ofString "_ABCLike"), true, [], [], false, none, false⟩), ⟨[(some (.ref 273)), none, (some (.str (.ofString "_ABCLike") 614)), (some (.str (.ofString "_ABCLike") 622)), (some (.builtin "type.__new__")), (some (.bool true))]⟩⟩
noncomputable def o312 (P : Params) : Obj := ⟨(.type "function"), none, (.func ⟨(.ofString "_abc_plain_meta"), (.ofString "_abc_plain_meta"), fArgs (nth pw.main.body 12), .stmts (bodyOf (nth pw.main.body 12)), fScope (nth pw.main.body 12), 3, [], .none, .none, .none, (.str (.ofString "collections.abc") 612), none, (.ref 311), .none, 0⟩), ⟨[]⟩⟩
noncomputable def o319 (P : Params) : Obj := ⟨(.type "function"), none, (.func ⟨(.ofString "fspath"), (.ofString "fspath"), fArgs (nth pw.main.body 14), .stmts (bodyOf (nth pw.main.body 14)), fScope (nth pw.main.body 14), 3, [], .none, .none, .none, (.str (.ofString "os") 662), none, (.ref 318), .none, 0⟩), ⟨[]⟩⟩
noncomputable def o326 (P : Params) : Obj := ⟨(.type "function"), none, (.func ⟨(.ofString "_check_arg_types"), (.ofString "_check_arg_types"), fArgs (nth pw.main.body 16), .stmts (bodyOf (nth pw.main.body 16)), fScope (nth pw.main.body 16), 3, [], .none, .none, .none, (.str (.ofString "cpy313.genericpath") 674), none, (.ref 325), .none, 0⟩), ⟨[]⟩⟩
noncomputable def o333 (P : Params) : Obj := ⟨(.type "function"), none, (.func ⟨(.ofString "_get_sep"), (.ofString "_get_sep"), fArgs (nth pw.main.body 18), .stmts (bodyOf (nth pw.main.body 18)), fScope (nth pw.main.body 18), 3, [], .none, .none, .none, (.str (.ofString "cpy313.posixpath") 687), none, (.ref 332), .none, 0⟩), ⟨[]⟩⟩
noncomputable def o340 (P : Params) : Obj := ⟨(.type "function"), none, (.func ⟨(.ofString "basename"), (.ofString "basename"), fArgs (nth pw.main.body 19), .stmts (bodyOf (nth pw.main.body 19)), fScope (nth pw.main.body 19), 3, [], .none, .none, (.str (docS (nth pw.main.body 19)) 704), (.str (.ofString "cpy313.posixpath") 687), none, (.ref 339), .none, 0⟩), ⟨[]⟩⟩
noncomputable def o347 (P : Params) : Obj := ⟨(.type "function"), none, (.func ⟨(.ofString "dirname"), (.ofString "dirname"), fArgs (nth pw.main.body 20), .stmts (bodyOf (nth pw.main.body 20)), fScope (nth pw.main.body 20), 3, [], .none, .none, (.str (docS (nth pw.main.body 20)) 715), (.str (.ofString "cpy313.posixpath") 687), none, (.ref 346), .none, 0⟩), ⟨[]⟩⟩
noncomputable def o352 (P : Params) : Obj := ⟨(.type "function"), none, (.func ⟨(.ofString "commonpath"), (.ofString "commonpath"), fArgs (nth pw.main.body 21), .stmts (bodyOf (nth pw.main.body 21)), fScope (nth pw.main.body 21), 3, [], .none, .none, (.str (docS (nth pw.main.body 21)) 722), (.str (.ofString "cpy313.posixpath") 687), none, (.ref 351), .none, 0⟩), ⟨[]⟩⟩
noncomputable def o359 (P : Params) : Obj := ⟨(.type "function"), none, (.func ⟨(.ofString "_law_rows"), (.ofString "_law_rows"), fArgs (nth pw.main.body 23), .stmts (bodyOf (nth pw.main.body 23)), fScope (nth pw.main.body 23), 3, [], .none, .none, .none, (.str (.ofString "law_pd0088_01") 724), none, (.ref 358), .none, 0⟩), ⟨[]⟩⟩
noncomputable def o366 (P : Params) : Obj := ⟨(.type "function"), none, (.func ⟨(.ofString "_law_text"), (.ofString "_law_text"), fArgs (nth pw.main.body 24), .stmts (bodyOf (nth pw.main.body 24)), fScope (nth pw.main.body 24), 3, [], .none, .none, .none, (.str (.ofString "law_pd0088_01") 724), none, (.ref 365), .none, 0⟩), ⟨[]⟩⟩
noncomputable def o373 (P : Params) : Obj := ⟨(.type "function"), none, (.func ⟨(.ofString "_law_up"), (.ofString "_law_up"), fArgs (nth pw.main.body 25), .stmts (bodyOf (nth pw.main.body 25)), fScope (nth pw.main.body 25), 3, [], .none, .none, .none, (.str (.ofString "law_pd0088_01") 724), none, (.ref 372), .none, 0⟩), ⟨[]⟩⟩
noncomputable def o380 (P : Params) : Obj := ⟨(.type "function"), none, (.func ⟨(.ofString "_law_same"), (.ofString "_law_same"), fArgs (nth pw.main.body 26), .stmts (bodyOf (nth pw.main.body 26)), fScope (nth pw.main.body 26), 3, [], .none, .none, .none, (.str (.ofString "law_pd0088_01") 724), none, (.ref 379), .none, 0⟩), ⟨[]⟩⟩
noncomputable def o385 (P : Params) : Obj := ⟨(.type "function"), none, (.func ⟨(.ofString "_law_window"), (.ofString "_law_window"), fArgs (nth pw.main.body 27), .stmts (bodyOf (nth pw.main.body 27)), fScope (nth pw.main.body 27), 3, [], .none, .none, .none, (.str (.ofString "law_pd0088_01") 724), none, (.ref 384), .none, 0⟩), ⟨[]⟩⟩
noncomputable def o392 (P : Params) : Obj := ⟨(.type "function"), none, (.func ⟨(.ofString "_law_blocks"), (.ofString "_law_blocks"), fArgs (nth pw.main.body 28), .stmts (bodyOf (nth pw.main.body 28)), fScope (nth pw.main.body 28), 3, [], .none, .none, .none, (.str (.ofString "law_pd0088_01") 724), none, (.ref 391), .none, 0⟩), ⟨[]⟩⟩
noncomputable def o397 (P : Params) : Obj := ⟨(.type "function"), none, (.func ⟨(.ofString "law"), (.ofString "law"), fArgs (nth pw.main.body 29), .stmts (bodyOf (nth pw.main.body 29)), fScope (nth pw.main.body 29), 3, [], .none, .none, .none, (.str (.ofString "law_pd0088_01") 724), none, (.ref 396), .none, 0⟩), ⟨[]⟩⟩
end Pd88.Internal
namespace Pd88.Internal
theorem wds : (Str.ofString "self" = ⟨⟨[115, 101, 108, 102]⟩⟩) ∧ (Str.ofString "i" = ⟨⟨[105]⟩⟩) ∧ (Str.ofString "b" = ⟨⟨[98]⟩⟩) ∧ (Str.ofString "fast" = ⟨⟨[102, 97, 115, 116]⟩⟩) ∧ (Str.ofString "a" = ⟨⟨[97]⟩⟩) ∧ (Str.ofString "j" = ⟨⟨[106]⟩⟩) ∧ (Str.ofString "size" = ⟨⟨[115, 105, 122, 101]⟩⟩) ∧ (Str.ofString "len" = ⟨⟨[108, 101, 110]⟩⟩) ∧ (Str.ofString "_wall" = ⟨⟨[95, 119, 97, 108, 108]⟩⟩) ∧ (Str.ofString "alo" = ⟨⟨[97, 108, 111]⟩⟩) ∧ (Str.ofString "blo" = ⟨⟨[98, 108, 111]⟩⟩) ∧ (Str.ofString "ahi" = ⟨⟨[97, 104, 105]⟩⟩) ∧ (Str.ofString "bhi" = ⟨⟨[98, 104, 105]⟩⟩) ∧ (Str.ofString "rows" = ⟨⟨[114, 111, 119, 115]⟩⟩) ∧ (Str.ofString "type" = ⟨⟨[116, 121, 112, 101]⟩⟩) ∧ (Str.ofString "bestsize" = ⟨⟨[98, 101, 115, 116, 115, 105, 122, 101]⟩⟩) ∧ (Str.ofString "tuple" = ⟨⟨[116, 117, 112, 108, 101]⟩⟩) ∧ (Str.ofString "path" = ⟨⟨[112, 97, 116, 104]⟩⟩) ∧ (Str.ofString "bestj" = ⟨⟨[98, 101, 115, 116, 106]⟩⟩) ∧ (Str.ofString "kind" = ⟨⟨[107, 105, 110, 100]⟩⟩) ∧ (Str.ofString "sep" = ⟨⟨[115, 101, 112]⟩⟩) ∧ (Str.ofString "p" = ⟨⟨[112]⟩⟩) ∧ (Str.ofString "besti" = ⟨⟨[98, 101, 115, 116, 105]⟩⟩) ∧ (Str.ofString "k" = ⟨⟨[107]⟩⟩) ∧ (Str.ofString "cls" = ⟨⟨[99, 108, 115]⟩⟩) ∧ (Str.ofString "__name__" = ⟨⟨[95, 95, 110, 97, 109, 101, 95, 95]⟩⟩) ∧ (Str.ofString "TypeError" = ⟨⟨[84, 121, 112, 101, 69, 114, 114, 111, 114]⟩⟩) ∧ (Str.ofString "first" = ⟨⟨[102, 105, 114, 115, 116]⟩⟩) ∧ (Str.ofString "last" = ⟨⟨[108, 97, 115, 116]⟩⟩) ∧ (Str.ofString "b2j" = ⟨⟨[98, 50, 106]⟩⟩) ∧ (Str.ofString "C" = ⟨⟨[67]⟩⟩) ∧ (Str.ofString "matching_blocks" = ⟨⟨[109, 97, 116, 99, 104, 105, 110, 103, 95, 98, 108, 111, 99, 107, 115]⟩⟩) ∧ (Str.ofString "elt" = ⟨⟨[101, 108, 116]⟩⟩) ∧ (Str.ofString "x" = ⟨⟨[120]⟩⟩) ∧ (Str.ofString ".0" = ⟨⟨[46, 48]⟩⟩) ∧ (Str.ofString "append" = ⟨⟨[97, 112, 112, 101, 110, 100]⟩⟩) ∧ (Str.ofString "row" = ⟨⟨[114, 111, 119]⟩⟩) ∧ (Str.ofString "_law_text" = ⟨⟨[95, 108, 97, 119, 95, 116, 101, 120, 116]⟩⟩) ∧ (Str.ofString "isjunk" = ⟨⟨[105, 115, 106, 117, 110, 107]⟩⟩) ∧ (Str.ofString "k1" = ⟨⟨[107, 49]⟩⟩) ∧ (Str.ofString "paths" = ⟨⟨[112, 97, 116, 104, 115]⟩⟩) ∧ (Str.ofString "name" = ⟨⟨[110, 97, 109, 101]⟩⟩) ∧ (Str.ofString "obj" = ⟨⟨[111, 98, 106]⟩⟩) ∧ (Str.ofString "result" = ⟨⟨[114, 101, 115, 117, 108, 116]⟩⟩) ∧ (Str.ofString "list" = ⟨⟨[108, 105, 115, 116]⟩⟩) ∧ (Str.ofString "range" = ⟨⟨[114, 97, 110, 103, 101]⟩⟩) ∧ (Str.ofString "fspath" = ⟨⟨[102, 115, 112, 97, 116, 104]⟩⟩) ∧ (Str.ofString "bytes" = ⟨⟨[98, 121, 116, 101, 115]⟩⟩) ∧ (Str.ofString "s" = ⟨⟨[115]⟩⟩) ∧ (Str.ofString "c" = ⟨⟨[99]⟩⟩) ∧ (Str.ofString "min" = ⟨⟨[109, 105, 110]⟩⟩) ∧ (Str.ofString "ahead" = ⟨⟨[97, 104, 101, 97, 100]⟩⟩) ∧ (Str.ofString "kwds" = ⟨⟨[107, 119, 100, 115]⟩⟩) ∧ (Str.ofString "" = ⟨⟨[]⟩⟩) ∧ (Str.ofString "head" = ⟨⟨[104, 101, 97, 100]⟩⟩) ∧ (Str.ofString "behind" = ⟨⟨[98, 101, 104, 105, 110, 100]⟩⟩) ∧ (Str.ofString "_law_blocks" = ⟨⟨[95, 108, 97, 119, 95, 98, 108, 111, 99, 107, 115]⟩⟩) ∧ (Str.ofString "_tuplegetter" = ⟨⟨[95, 116, 117, 112, 108, 101, 103, 101, 116, 116, 101, 114]⟩⟩) ∧ (Str.ofString "issubclass" = ⟨⟨[105, 115, 115, 117, 98, 99, 108, 97, 115, 115]⟩⟩) ∧ (Str.ofString "Match" = ⟨⟨[77, 97, 116, 99, 104]⟩⟩) ∧ (Str.ofString "_plain_name" = ⟨⟨[95, 112, 108, 97, 105, 110, 95, 110, 97, 109, 101]⟩⟩) ∧ (Str.ofString "isinstance" = ⟨⟨[105, 115, 105, 110, 115, 116, 97, 110, 99, 101]⟩⟩) ∧ (Str.ofString "_get_sep" = ⟨⟨[95, 103, 101, 116, 95, 115, 101, 112]⟩⟩) ∧ (Str.ofString "curdir" = ⟨⟨[99, 117, 114, 100, 105, 114]⟩⟩) ∧ (Str.ofString "split_paths" = ⟨⟨[115, 112, 108, 105, 116, 95, 112, 97, 116, 104, 115]⟩⟩) ∧ (Str.ofString "_law_up" = ⟨⟨[95, 108, 97, 119, 95, 117, 112]⟩⟩) ∧ (Str.ofString "__init__" = ⟨⟨[95, 95, 105, 110, 105, 116, 95, 95]⟩⟩) ∧ (Str.ofString "index" = ⟨⟨[105, 110, 100, 101, 120]⟩⟩) ∧ (Str.ofString "AttributeError" = ⟨⟨[65, 116, 116, 114, 105, 98, 117, 116, 101, 69, 114, 114, 111, 114]⟩⟩) ∧ (Str.ofString "__new__" = ⟨⟨[95, 95, 110, 101, 119, 95, 95]⟩⟩) ∧ (Str.ofString "__class__" = ⟨⟨[95, 95, 99, 108, 97, 115, 115, 95, 95]⟩⟩) ∧ (Str.ofString "map" = ⟨⟨[109, 97, 112]⟩⟩) ∧ (Str.ofString "matches" = ⟨⟨[109, 97, 116, 99, 104, 101, 115]⟩⟩) ∧ (Str.ofString "autojunk" = ⟨⟨[97, 117, 116, 111, 106, 117, 110, 107]⟩⟩) ∧ (Str.ofString "n" = ⟨⟨[110]⟩⟩) ∧ (Str.ofString "isbjunk" = ⟨⟨[105, 115, 98, 106, 117, 110, 107]⟩⟩) ∧ (Str.ofString "get_matching_blocks" = ⟨⟨[103, 101, 116, 95, 109, 97, 116, 99, 104, 105, 110, 103, 95, 98, 108, 111, 99, 107, 115]⟩⟩) ∧ (Str.ofString "queue" = ⟨⟨[113, 117, 101, 117, 101]⟩⟩) ∧ (Str.ofString "i1" = ⟨⟨[105, 49]⟩⟩) ∧ (Str.ofString "j1" = ⟨⟨[106, 49]⟩⟩) ∧ (Str.ofString "non_adjacent" = ⟨⟨[110, 111, 110, 95, 97, 100, 106, 97, 99, 101, 110, 116]⟩⟩) ∧ (Str.ofString "ABCMeta" = ⟨⟨[65, 66, 67, 77, 101, 116, 97]⟩⟩) ∧ (Str.ofString "register" = ⟨⟨[114, 101, 103, 105, 115, 116, 101, 114]⟩⟩) ∧ (Str.ofString "basename" = ⟨⟨[98, 97, 115, 101, 110, 97, 109, 101]⟩⟩) ∧ (Str.ofString "dirname" = ⟨⟨[100, 105, 114, 110, 97, 109, 101]⟩⟩) ∧ (Str.ofString "commonpath" = ⟨⟨[99, 111, 109, 109, 111, 110, 112, 97, 116, 104]⟩⟩) ∧ (Str.ofString "s1" = ⟨⟨[115, 49]⟩⟩) ∧ (Str.ofString "due" = ⟨⟨[100, 117, 101]⟩⟩) ∧ (Str.ofString "matcher" = ⟨⟨[109, 97, 116, 99, 104, 101, 114]⟩⟩) ∧ (Str.ofString "_make" = ⟨⟨[95, 109, 97, 107, 101]⟩⟩) ∧ (Str.ofString "pop" = ⟨⟨[112, 111, 112]⟩⟩) ∧ (Str.ofString "_calculate_ratio" = ⟨⟨[95, 99, 97, 108, 99, 117, 108, 97, 116, 101, 95, 114, 97, 116, 105, 111]⟩⟩) ∧ (Str.ofString "SequenceMatcher" = ⟨⟨[83, 101, 113, 117, 101, 110, 99, 101, 77, 97, 116, 99, 104, 101, 114]⟩⟩) ∧ (Str.ofString "set" = ⟨⟨[115, 101, 116]⟩⟩) ∧ (Str.ofString "find_longest_match" = ⟨⟨[102, 105, 110, 100, 95, 108, 111, 110, 103, 101, 115, 116, 95, 109, 97, 116, 99, 104]⟩⟩) ∧ (Str.ofString "_ABCLike" = ⟨⟨[95, 65, 66, 67, 76, 105, 107, 101]⟩⟩) ∧ (Str.ofString "_abc_plain_meta" = ⟨⟨[95, 97, 98, 99, 95, 112, 108, 97, 105, 110, 95, 109, 101, 116, 97]⟩⟩) ∧ (Str.ofString "str" = ⟨⟨[115, 116, 114]⟩⟩) ∧ (Str.ofString "hook" = ⟨⟨[104, 111, 111, 107]⟩⟩) ∧ (Str.ofString "given" = ⟨⟨[103, 105, 118, 101, 110]⟩⟩) ∧ (Str.ofString "_check_arg_types" = ⟨⟨[95, 99, 104, 101, 99, 107, 95, 97, 114, 103, 95, 116, 121, 112, 101, 115]⟩⟩) ∧ (Str.ofString "/" = ⟨⟨[47]⟩⟩) ∧ (Str.ofString "." = ⟨⟨[46]⟩⟩) ∧ (Str.ofString "common" = ⟨⟨[99, 111, 109, 109, 111, 110]⟩⟩) ∧ (Str.ofString "_law_rows" = ⟨⟨[95, 108, 97, 119, 95, 114, 111, 119, 115]⟩⟩) ∧ (Str.ofString "_law_same" = ⟨⟨[95, 108, 97, 119, 95, 115, 97, 109, 101]⟩⟩) ∧ (Str.ofString "_law_window" = ⟨⟨[95, 108, 97, 119, 95, 119, 105, 110, 100, 111, 119]⟩⟩) ∧ (Str.ofString "block" = ⟨⟨[98, 108, 111, 99, 107]⟩⟩) ∧ (Str.ofString "told" = ⟨⟨[116, 111, 108, 100]⟩⟩) ∧ (Str.ofString "__getitem__" = ⟨⟨[95, 95, 103, 101, 116, 105, 116, 101, 109, 95, 95]⟩⟩) ∧ (Str.ofString "_replace" = ⟨⟨[95, 114, 101, 112, 108, 97, 99, 101]⟩⟩) ∧ (Str.ofString "length" = ⟨⟨[108, 101, 110, 103, 116, 104]⟩⟩) ∧ (Str.ofString "set_seqs" = ⟨⟨[115, 101, 116, 95, 115, 101, 113, 115]⟩⟩) ∧ (Str.ofString "set_seq1" = ⟨⟨[115, 101, 116, 95, 115, 101, 113, 49]⟩⟩) ∧ (Str.ofString "set_seq2" = ⟨⟨[115, 101, 116, 95, 115, 101, 113, 50]⟩⟩) ∧ (Str.ofString "enumerate" = ⟨⟨[101, 110, 117, 109, 101, 114, 97, 116, 101]⟩⟩) ∧ (Str.ofString "junk" = ⟨⟨[106, 117, 110, 107]⟩⟩) ∧ (Str.ofString "popular" = ⟨⟨[112, 111, 112, 117, 108, 97, 114]⟩⟩) ∧ (Str.ofString "j2len" = ⟨⟨[106, 50, 108, 101, 110]⟩⟩) ∧ (Str.ofString "newj2len" = ⟨⟨[110, 101, 119, 106, 50, 108, 101, 110]⟩⟩) ∧ (Str.ofString "la" = ⟨⟨[108, 97]⟩⟩) ∧ (Str.ofString "lb" = ⟨⟨[108, 98]⟩⟩) ∧ (Str.ofString "i2" = ⟨⟨[105, 50]⟩⟩) ∧ (Str.ofString "j2" = ⟨⟨[106, 50]⟩⟩) ∧ (Str.ofString "k2" = ⟨⟨[107, 50]⟩⟩) ∧ (Str.ofString "subclass" = ⟨⟨[115, 117, 98, 99, 108, 97, 115, 115]⟩⟩) ∧ (Str.ofString "instance" = ⟨⟨[105, 110, 115, 116, 97, 110, 99, 101]⟩⟩) ∧ (Str.ofString "hasstr" = ⟨⟨[104, 97, 115, 115, 116, 114]⟩⟩) ∧ (Str.ofString "hasbytes" = ⟨⟨[104, 97, 115, 98, 121, 116, 101, 115]⟩⟩) ∧ (Str.ofString "ValueError" = ⟨⟨[86, 97, 108, 117, 101, 69, 114, 114, 111, 114]⟩⟩) ∧ (Str.ofString "isabs" = ⟨⟨[105, 115, 97, 98, 115]⟩⟩) ∧ (Str.ofString "s2" = ⟨⟨[115, 50]⟩⟩) ∧ (Str.ofString "prefix" = ⟨⟨[112, 114, 101, 102, 105, 120]⟩⟩) ∧ (Str.ofString "count" = ⟨⟨[99, 111, 117, 110, 116]⟩⟩) ∧ (Str.ofString "text" = ⟨⟨[116, 101, 120, 116]⟩⟩) ∧ (Str.ofString "piece" = ⟨⟨[112, 105, 101, 99, 101]⟩⟩) ∧ (Str.ofString "names" = ⟨⟨[110, 97, 109, 101, 115]⟩⟩) ∧ (Str.ofString "firsts" = ⟨⟨[102, 105, 114, 115, 116, 115]⟩⟩) ∧ (Str.ofString "lasts" = ⟨⟨[108, 97, 115, 116, 115]⟩⟩) ∧ (Str.ofString "ups" = ⟨⟨[117, 112, 115]⟩⟩) ∧ (Str.ofString "others" = ⟨⟨[111, 116, 104, 101, 114, 115]⟩⟩) ∧ (Str.ofString "front" = ⟨⟨[102, 114, 111, 110, 116]⟩⟩) ∧ (Str.ofString "script" = ⟨⟨[115, 99, 114, 105, 112, 116]⟩⟩) ∧ (Str.ofString "doc" = ⟨⟨[100, 111, 99]⟩⟩) ∧ (Str.ofString "__get__" = ⟨⟨[95, 95, 103, 101, 116, 95, 95]⟩⟩) ∧ (Str.ofString "__set__" = ⟨⟨[95, 95, 115, 101, 116, 95, 95]⟩⟩) ∧ (Str.ofString "__delete__" = ⟨⟨[95, 95, 100, 101, 108, 101, 116, 101, 95, 95]⟩⟩) ∧ (Str.ofString "_cls" = ⟨⟨[95, 99, 108, 115]⟩⟩) ∧ (Str.ofString "iterable" = ⟨⟨[105, 116, 101, 114, 97, 98, 108, 101]⟩⟩) ∧ (Str.ofString "__repr__" = ⟨⟨[95, 95, 114, 101, 112, 114, 95, 95]⟩⟩) ∧ (Str.ofString "_asdict" = ⟨⟨[95, 97, 115, 100, 105, 99, 116]⟩⟩) ∧ (Str.ofString "__getnewargs__" = ⟨⟨[95, 95, 103, 101, 116, 110, 101, 119, 97, 114, 103, 115, 95, 95]⟩⟩) ∧ (Str.ofString "opcodes" = ⟨⟨[111, 112, 99, 111, 100, 101, 115]⟩⟩) ∧ (Str.ofString "_SequenceMatcher__chain_b" = ⟨⟨[95, 83, 101, 113, 117, 101, 110, 99, 101, 77, 97, 116, 99, 104, 101, 114, 95, 95, 99, 104, 97, 105, 110, 95, 98]⟩⟩) ∧ (Str.ofString "indices" = ⟨⟨[105, 110, 100, 105, 99, 101, 115]⟩⟩) ∧ (Str.ofString "bjunk" = ⟨⟨[98, 106, 117, 110, 107]⟩⟩) ∧ (Str.ofString "ntest" = ⟨⟨[110, 116, 101, 115, 116]⟩⟩) ∧ (Str.ofString "idxs" = ⟨⟨[105, 100, 120, 115]⟩⟩) ∧ (Str.ofString "nothing" = ⟨⟨[110, 111, 116, 104, 105, 110, 103]⟩⟩) ∧ (Str.ofString "j2lenget" = ⟨⟨[106, 50, 108, 101, 110, 103, 101, 116]⟩⟩) ∧ (Str.ofString "get_opcodes" = ⟨⟨[103, 101, 116, 95, 111, 112, 99, 111, 100, 101, 115]⟩⟩) ∧ (Str.ofString "get_grouped_opcodes" = ⟨⟨[103, 101, 116, 95, 103, 114, 111, 117, 112, 101, 100, 95, 111, 112, 99, 111, 100, 101, 115]⟩⟩) ∧ (Str.ofString "ratio" = ⟨⟨[114, 97, 116, 105, 111]⟩⟩) ∧ (Str.ofString "triple" = ⟨⟨[116, 114, 105, 112, 108, 101]⟩⟩) ∧ (Str.ofString "quick_ratio" = ⟨⟨[113, 117, 105, 99, 107, 95, 114, 97, 116, 105, 111]⟩⟩) ∧ (Str.ofString "real_quick_ratio" = ⟨⟨[114, 101, 97, 108, 95, 113, 117, 105, 99, 107, 95, 114, 97, 116, 105, 111]⟩⟩) ∧ (Str.ofString "__instancecheck__" = ⟨⟨[95, 95, 105, 110, 115, 116, 97, 110, 99, 101, 99, 104, 101, 99, 107, 95, 95]⟩⟩) ∧ (Str.ofString "__subclasscheck__" = ⟨⟨[95, 95, 115, 117, 98, 99, 108, 97, 115, 115, 99, 104, 101, 99, 107, 95, 95]⟩⟩) ∧ (Str.ofString "funcname" = ⟨⟨[102, 117, 110, 99, 110, 97, 109, 101]⟩⟩) ∧ (Str.ofString "args" = ⟨⟨[97, 114, 103, 115]⟩⟩) ∧ (Str.ofString "numbers" = ⟨⟨[110, 117, 109, 98, 101, 114, 115]⟩⟩) ∧ (Str.ofString "start" = ⟨⟨[115, 116, 97, 114, 116]⟩⟩) ∧ (Str.ofString "stop" = ⟨⟨[115, 116, 111, 112]⟩⟩) ∧ (Str.ofString "law" = ⟨⟨[108, 97, 119]⟩⟩) ∧ (Str.ofString "__doc__" = ⟨⟨[95, 95, 100, 111, 99, 95, 95]⟩⟩) ∧ (Str.ofString "objtype" = ⟨⟨[111, 98, 106, 116, 121, 112, 101]⟩⟩) ∧ (Str.ofString "value" = ⟨⟨[118, 97, 108, 117, 101]⟩⟩) ∧ (Str.ofString "__slots__" = ⟨⟨[95, 95, 115, 108, 111, 116, 115, 95, 95]⟩⟩) ∧ (Str.ofString "_fields" = ⟨⟨[95, 102, 105, 101, 108, 100, 115]⟩⟩) ∧ (Str.ofString "_field_defaults" = ⟨⟨[95, 102, 105, 101, 108, 100, 95, 100, 101, 102, 97, 117, 108, 116, 115]⟩⟩) ∧ (Str.ofString "classmethod" = ⟨⟨[99, 108, 97, 115, 115, 109, 101, 116, 104, 111, 100]⟩⟩) ∧ (Str.ofString "__replace__" = ⟨⟨[95, 95, 114, 101, 112, 108, 97, 99, 101, 95, 95]⟩⟩) ∧ (Str.ofString "__match_args__" = ⟨⟨[95, 95, 109, 97, 116, 99, 104, 95, 97, 114, 103, 115, 95, 95]⟩⟩) ∧ (Str.ofString "fullbcount" = ⟨⟨[102, 117, 108, 108, 98, 99, 111, 117, 110, 116]⟩⟩) ∧ (Str.ofString "add" = ⟨⟨[97, 100, 100]⟩⟩) ∧ (Str.ofString "bpopular" = ⟨⟨[98, 112, 111, 112, 117, 108, 97, 114]⟩⟩) ∧ (Str.ofString "get" = ⟨⟨[103, 101, 116]⟩⟩) ∧ (Str.ofString "sum" = ⟨⟨[115, 117, 109]⟩⟩) ∧ (Str.ofString "os" = ⟨⟨[111, 115]⟩⟩) ∧ (Str.ofString "what" = ⟨⟨[119, 104, 97, 116]⟩⟩) ∧ (Str.ofString "bool" = ⟨⟨[98, 111, 111, 108]⟩⟩) ∧ (Str.ofString "int" = ⟨⟨[105, 110, 116]⟩⟩) ∧ (Str.ofString "float" = ⟨⟨[102, 108, 111, 97, 116]⟩⟩) ∧ (Str.ofString "complex" = ⟨⟨[99, 111, 109, 112, 108, 101, 120]⟩⟩) ∧ (Str.ofString "bytearray" = ⟨⟨[98, 121, 116, 101, 97, 114, 114, 97, 121]⟩⟩) ∧ (Str.ofString "dict" = ⟨⟨[100, 105, 99, 116]⟩⟩) ∧ (Str.ofString "frozenset" = ⟨⟨[102, 114, 111, 122, 101, 110, 115, 101, 116]⟩⟩) ∧ (Str.ofString "_abc_kind" = ⟨⟨[95, 97, 98, 99, 95, 107, 105, 110, 100]⟩⟩) ∧ (Str.ofString "getattr" = ⟨⟨[103, 101, 116, 97, 116, 116, 114]⟩⟩) ∧ (Str.ofString "__fspath__" = ⟨⟨[95, 95, 102, 115, 112, 97, 116, 104, 95, 95]⟩⟩) ∧ (Str.ofString "rfind" = ⟨⟨[114, 102, 105, 110, 100]⟩⟩) ∧ (Str.ofString "split" = ⟨⟨[115, 112, 108, 105, 116]⟩⟩) ∧ (Str.ofString "max" = ⟨⟨[109, 97, 120]⟩⟩) ∧ (Str.ofString "cpy313.difflib" = ⟨⟨[99, 112, 121, 51, 49, 51, 46, 100, 105, 102, 102, 108, 105, 98]⟩⟩) ∧ (Str.ofString "can't set attribute" = ⟨⟨[99, 97, 110, 39, 116, 32, 115, 101, 116, 32, 97, 116, 116, 114, 105, 98, 117, 116, 101]⟩⟩) ∧ (Str.ofString "can't delete attribute" = ⟨⟨[99, 97, 110, 39, 116, 32, 100, 101, 108, 101, 116, 101, 32, 97, 116, 116, 114, 105, 98, 117, 116, 101]⟩⟩) ∧ (Str.ofString "Match(a, b, size)" = ⟨⟨[77, 97, 116, 99, 104, 40, 97, 44, 32, 98, 44, 32, 115, 105, 122, 101, 41]⟩⟩) ∧ (Str.ofString "Expected 3 arguments, got " = ⟨⟨[69, 120, 112, 101, 99, 116, 101, 100, 32, 51, 32, 97, 114, 103, 117, 109, 101, 110, 116, 115, 44, 32, 103, 111, 116, 32]⟩⟩) ∧ (Str.ofString "__len__" = ⟨⟨[95, 95, 108, 101, 110, 95, 95]⟩⟩) ∧ (Str.ofString "Got unexpected field names: " = ⟨⟨[71, 111, 116, 32, 117, 110, 101, 120, 112, 101, 99, 116, 101, 100, 32, 102, 105, 101, 108, 100, 32, 110, 97, 109, 101, 115, 58, 32]⟩⟩) ∧ (Str.ofString "(a=%r, b=%r, size=%r)" = ⟨⟨[40, 97, 61, 37, 114, 44, 32, 98, 61, 37, 114, 44, 32, 115, 105, 122, 101, 61, 37, 114, 41]⟩⟩) ∧ (Str.ofString "Alias for field number 0" = ⟨⟨[65, 108, 105, 97, 115, 32, 102, 111, 114, 32, 102, 105, 101, 108, 100, 32, 110, 117, 109, 98, 101, 114, 32, 48]⟩⟩) ∧ (Str.ofString "Alias for field number 1" = ⟨⟨[65, 108, 105, 97, 115, 32, 102, 111, 114, 32, 102, 105, 101, 108, 100, 32, 110, 117, 109, 98, 101, 114, 32, 49]⟩⟩) ∧ (Str.ofString "Alias for field number 2" = ⟨⟨[65, 108, 105, 97, 115, 32, 102, 111, 114, 32, 102, 105, 101, 108, 100, 32, 110, 117, 109, 98, 101, 114, 32, 50]⟩⟩) ∧ (Str.ofString "__chain_b" = ⟨⟨[95, 95, 99, 104, 97, 105, 110, 95, 98]⟩⟩) ∧ (Str.ofString "setdefault" = ⟨⟨[115, 101, 116, 100, 101, 102, 97, 117, 108, 116]⟩⟩) ∧ (Str.ofString "keys" = ⟨⟨[107, 101, 121, 115]⟩⟩) ∧ (Str.ofString "items" = ⟨⟨[105, 116, 101, 109, 115]⟩⟩) ∧ (Str.ofString "__contains__" = ⟨⟨[95, 95, 99, 111, 110, 116, 97, 105, 110, 115, 95, 95]⟩⟩) ∧ (Str.ofString "sort" = ⟨⟨[115, 111, 114, 116]⟩⟩) ∧ (Str.ofString "abc" = ⟨⟨[97, 98, 99]⟩⟩) ∧ (Str.ofString "collections.abc" = ⟨⟨[99, 111, 108, 108, 101, 99, 116, 105, 111, 110, 115, 46, 97, 98, 99]⟩⟩) ∧ (Str.ofString "encode" = ⟨⟨[101, 110, 99, 111, 100, 101]⟩⟩) ∧ (Str.ofString "utf-8" = ⟨⟨[117, 116, 102, 45, 56]⟩⟩) ∧ (Str.ofString "format" = ⟨⟨[102, 111, 114, 109, 97, 116]⟩⟩) ∧ (Str.ofString "cpy313.genericpath" = ⟨⟨[99, 112, 121, 51, 49, 51, 46, 103, 101, 110, 101, 114, 105, 99, 112, 97, 116, 104]⟩⟩) ∧ (Str.ofString "cpy313.posixpath" = ⟨⟨[99, 112, 121, 51, 49, 51, 46, 112, 111, 115, 105, 120, 112, 97, 116, 104]⟩⟩) ∧ (Str.ofString "rstrip" = ⟨⟨[114, 115, 116, 114, 105, 112]⟩⟩) ∧ (Str.ofString "startswith" = ⟨⟨[115, 116, 97, 114, 116, 115, 119, 105, 116, 104]⟩⟩) ∧ (Str.ofString "join" = ⟨⟨[106, 111, 105, 110]⟩⟩) ∧ (Str.ofString "law_pd0088_01" = ⟨⟨[108, 97, 119, 95, 112, 100, 48, 48, 56, 56, 95, 48, 49]⟩⟩) ∧ (Str.ofString "ab" = ⟨⟨[97, 98]⟩⟩) ∧ (Str.ofString "key" = ⟨⟨[107, 101, 121]⟩⟩) ∧ (Str.ofString "/claim/cut.py" = ⟨⟨[47, 99, 108, 97, 105, 109, 47, 99, 117, 116, 46, 112, 121]⟩⟩) := by and_intros <;> kernel_rfl
abbrev F4 (a : Type) := Str → Str → Str → Str → a
abbrev F16 := F4 (F4 (F4 (F4 Program)))
noncomputable def Wp (_ : Program) : Type := F16 × List Str
noncomputable def pk {G : F16} : ∀ d1 d2 d3 d4 d5 d6 d7 d8 d9 d10 d11 d12 d13 d14 d15 d16 : Str, Wp (G d1 d2 d3 d4 d5 d6 d7 d8 d9 d10 d11 d12 d13 d14 d15 d16) := fun d1 d2 d3 d4 d5 d6 d7 d8 d9 d10 d11 d12 d13 d14 d15 d16 => (G, [d1, d2, d3, d4, d5, d6, d7, d8, d9, d10, d11, d12, d13, d14, d15, d16])
noncomputable def pwD : F16 × List Str := by
 refine (?f : (PySem.Challenge.pw_pd0088_01 = ?p) → _) ?h
 case h =>
  have h := wds
  delta PySem.Challenge.pw_pd0088_01
  conv => lhs; simp only [h]
 case f =>
  intro _
  show Wp ?p
  iterate 16 (generalize Str.ofString _ = d; revert d)
  exact pk
noncomputable def apD (G : F16) : List Str → Program
 | [d1, d2, d3, d4, d5, d6, d7, d8, d9, d10, d11, d12, d13, d14, d15, d16] => G d1 d2 d3 d4 d5 d6 d7 d8 d9 d10 d11 d12 d13 d14 d15 d16
 | _ => pw
noncomputable def docF : List Str := by
 refine (?f : (pwD.2 = ?p) → _) ?h
 case h =>
  conv =>
   lhs
   delta pwD
   dsimp only [pk, id_eq]
   repeat rw [PySem.W.Fast.ofString_ofList]
 case f => exact fun _ => ?p
theorem docF_eq : docF = pwD.2 := by
 delta pwD
 dsimp only [pk, id_eq]
 repeat rw [PySem.W.Fast.ofString_ofList]
 kernel_rfl
noncomputable def pwF : Program := apD pwD.1 docF
theorem pwF_eq : pwF = pw := (congrArg (apD pwD.1) docF_eq).trans (by kernel_rfl)
noncomputable def KLd : Program → Params → List (Nat × Obj) := by
 refine (?f : ((fun (p : Program) (P : Params) => ([(nat_lit 2, o2 P), (nat_lit 3, o3 P), (nat_lit 15, ⟨.type "tuple", none, .seq ⟨[]⟩ 0, ⟨[]⟩⟩), (nat_lit 17, ⟨.type "tuple", none, .seq ⟨[.str (.ofString "k") 190]⟩ 0, ⟨[]⟩⟩), (nat_lit 18, ⟨.type "tuple", none, .seq ⟨[]⟩ 0, ⟨[]⟩⟩), (nat_lit 20, ⟨.type "code", none, .fields ⟨[.str (.ofString "_wall") 187, .str (.ofString "_wall") 188, .str (.ofString "/claim/cut.py") 189, .int 1 0, .int 1 0, .int 0 0, .int 0 0, .int 3 0, .ref 15, .bool true, .int 181 0, .ref 16, .none, .ref 17, .ref 18, .ref 19, .int 191 0, .int 1 0, .str (.ofString "/claim/cut.py") 192]⟩, ⟨[]⟩⟩), (nat_lit 21, ⟨.type "function", none, .func ⟨.ofString "_wall", .ofString "_wall", fArgs (nth p.main.body 0), .stmts (bodyOf (nth p.main.body 0)), fScope (nth p.main.body 0), 3, [], .none, .none, .none, .str (.ofString "__main__") 164, none, .ref 20, .none, 0⟩, ⟨[]⟩⟩), (nat_lit 29, ⟨.type "tuple", none, .seq ⟨[]⟩ 0, ⟨[]⟩⟩), (nat_lit 31, ⟨.type "tuple", none, .seq ⟨[.str (.ofString "self") 211, .str (.ofString "index") 212, .str (.ofString "doc") 213]⟩ 0, ⟨[]⟩⟩), (nat_lit 32, ⟨.type "tuple", none, .seq ⟨[]⟩ 0, ⟨[]⟩⟩), (nat_lit 34, ⟨.type "code", none, .fields ⟨[.str (.ofString "__init__") 208, .str (.ofString "_tuplegetter.__init__") 209, .str (.ofString "/claim/cut.py") 210, .int 7 0, .int 3 0, .int 0 0, .int 0 0, .int 3 0, .ref 29, .bool true, .int 181 0, .ref 30, .none, .ref 31, .ref 32, .ref 33, .int 214 0, .int 7 0, .str (.ofString "/claim/cut.py") 215]⟩, ⟨[]⟩⟩), (nat_lit 35, ⟨.type "function", none, .func ⟨.ofString "__init__", .ofString "_tuplegetter.__init__", fArgs (nth (bodyOf (nth p.main.body 2)) 0), .stmts (bodyOf (nth (bodyOf (nth p.main.body 2)) 0)), fScope (nth (bodyOf (nth p.main.body 2)) 0), 3, [], .none, .none, .none, .str (.ofString "cpy313.difflib") 194, none, .ref 34, .none, 0⟩, ⟨[]⟩⟩), (nat_lit 36, o36 P), (nat_lit 37, ⟨.type "tuple", none, .seq ⟨[]⟩ 0, ⟨[]⟩⟩), (nat_lit 39, ⟨.type "tuple", none, .seq ⟨[.str (.ofString "self") 220, .str (.ofString "obj") 221, .str (.ofString "objtype") 222]⟩ 0, ⟨[]⟩⟩), (nat_lit 40, ⟨.type "tuple", none, .seq ⟨[]⟩ 0, ⟨[]⟩⟩), (nat_lit 42, ⟨.type "code", none, .fields ⟨[.str (.ofString "__get__") 217, .str (.ofString "_tuplegetter.__get__") 218, .str (.ofString "/claim/cut.py") 219, .int 11 0, .int 3 0, .int 0 0, .int 0 0, .int 3 0, .ref 37, .bool true, .int 181 0, .ref 38, .none, .ref 39, .ref 40, .ref 41, .int 223 0, .int 11 0, .str (.ofString "/claim/cut.py") 224]⟩, ⟨[]⟩⟩), (nat_lit 43, ⟨.type "function", none, .func ⟨.ofString "__get__", .ofString "_tuplegetter.__get__", fArgs (nth (bodyOf (nth p.main.body 2)) 1), .stmts (bodyOf (nth (bodyOf (nth p.main.body 2)) 1)), fScope (nth (bodyOf (nth p.main.body 2)) 1), 3, [], .ref 36, .none, .none, .str (.ofString "cpy313.difflib") 194, none, .ref 42, .none, 0⟩, ⟨[]⟩⟩), (nat_lit 44, ⟨.type "tuple", none, .seq ⟨[]⟩ 0, ⟨[]⟩⟩), (nat_lit 46, ⟨.type "tuple", none, .seq ⟨[.str (.ofString "self") 229, .str (.ofString "obj") 230, .str (.ofString "value") 231]⟩ 0, ⟨[]⟩⟩), (nat_lit 47, ⟨.type "tuple", none, .seq ⟨[]⟩ 0, ⟨[]⟩⟩), (nat_lit 49, ⟨.type "code", none, .fields ⟨[.str (.ofString "__set__") 226, .str (.ofString "_tuplegetter.__set__") 227, .str (.ofString "/claim/cut.py") 228, .int 18 0, .int 3 0, .int 0 0, .int 0 0, .int 3 0, .ref 44, .bool true, .int 181 0, .ref 45, .none, .ref 46, .ref 47, .ref 48, .int 232 0, .int 18 0, .str (.ofString "/claim/cut.py") 233]⟩, ⟨[]⟩⟩), (nat_lit 50, ⟨.type "function", none, .func ⟨.ofString "__set__", .ofString "_tuplegetter.__set__", fArgs (nth (bodyOf (nth p.main.body 2)) 2), .stmts (bodyOf (nth (bodyOf (nth p.main.body 2)) 2)), fScope (nth (bodyOf (nth p.main.body 2)) 2), 3, [], .none, .none, .none, .str (.ofString "cpy313.difflib") 194, none, .ref 49, .none, 0⟩, ⟨[]⟩⟩), (nat_lit 51, ⟨.type "tuple", none, .seq ⟨[]⟩ 0, ⟨[]⟩⟩), (nat_lit 53, ⟨.type "tuple", none, .seq ⟨[.str (.ofString "self") 238, .str (.ofString "obj") 239]⟩ 0, ⟨[]⟩⟩), (nat_lit 54, ⟨.type "tuple", none, .seq ⟨[]⟩ 0, ⟨[]⟩⟩), (nat_lit 56, ⟨.type "code", none, .fields ⟨[.str (.ofString "__delete__") 235, .str (.ofString "_tuplegetter.__delete__") 236, .str (.ofString "/claim/cut.py") 237, .int 21 0, .int 2 0, .int 0 0, .int 0 0, .int 3 0, .ref 51, .bool true, .int 181 0, .ref 52, .none, .ref 53, .ref 54, .ref 55, .int 240 0, .int 21 0, .str (.ofString "/claim/cut.py") 241]⟩, ⟨[]⟩⟩), (nat_lit 57, ⟨.type "function", none, .func ⟨.ofString "__delete__", .ofString "_tuplegetter.__delete__", fArgs (nth (bodyOf (nth p.main.body 2)) 3), .stmts (bodyOf (nth (bodyOf (nth p.main.body 2)) 3)), fScope (nth (bodyOf (nth p.main.body 2)) 3), 3, [], .none, .none, .none, .str (.ofString "cpy313.difflib") 194, none, .ref 56, .none, 0⟩, ⟨[]⟩⟩), (nat_lit 58, ⟨.type "tuple", none, .seq ⟨[.str (.ofString "__doc__") 243, .str (.ofString "index") 244]⟩ 0, ⟨[]⟩⟩), (nat_lit 59, o59 P), (nat_lit 60, o60 P), (nat_lit 61, o61 P), (nat_lit 62, o62 P), (nat_lit 65, o65 P), (nat_lit 68, o68 P), (nat_lit 73, ⟨.type "tuple", none, .seq ⟨[]⟩ 0, ⟨[]⟩⟩), (nat_lit 74, ⟨.type "tuple", none, .seq ⟨[.str (.ofString "a") 269, .str (.ofString "b") 270, .str (.ofString "size") 271]⟩ 0, ⟨[]⟩⟩), (nat_lit 75, o75 P), (nat_lit 76, ⟨.type "tuple", none, .seq ⟨[]⟩ 0, ⟨[]⟩⟩), (nat_lit 78, ⟨.type "tuple", none, .seq ⟨[.str (.ofString "_cls") 277, .str (.ofString "a") 278, .str (.ofString "b") 279, .str (.ofString "size") 280]⟩ 0, ⟨[]⟩⟩), (nat_lit 79, ⟨.type "tuple", none, .seq ⟨[]⟩ 0, ⟨[]⟩⟩), (nat_lit 81, ⟨.type "code", none, .fields ⟨[.str (.ofString "__new__") 274, .str (.ofString "Match.__new__") 275, .str (.ofString "/claim/cut.py") 276, .int 29 0, .int 4 0, .int 0 0, .int 0 0, .int 3 0, .ref 76, .bool true, .int 181 0, .ref 77, .none, .ref 78, .ref 79, .ref 80, .int 281 0, .int 29 0, .str (.ofString "/claim/cut.py") 282]⟩, ⟨[]⟩⟩), (nat_lit 82, ⟨.type "function", none, .func ⟨.ofString "__new__", .ofString "Match.__new__", fArgs (nth (bodyOf (nth p.main.body 3)) 4), .stmts (bodyOf (nth (bodyOf (nth p.main.body 3)) 4)), fScope (nth (bodyOf (nth p.main.body 3)) 4), 3, [], .none, .none, .str (docS (nth (bodyOf (nth p.main.body 3)) 4)) 283, .str (.ofString "cpy313.difflib") 194, none, .ref 81, .none, 0⟩, ⟨[]⟩⟩), (nat_lit 83, ⟨.type "tuple", none, .seq ⟨[]⟩ 0, ⟨[]⟩⟩), (nat_lit 85, ⟨.type "tuple", none, .seq ⟨[.str (.ofString "cls") 288, .str (.ofString "iterable") 289, .str (.ofString "result") 290]⟩ 0, ⟨[]⟩⟩), (nat_lit 86, ⟨.type "tuple", none, .seq ⟨[]⟩ 0, ⟨[]⟩⟩), (nat_lit 88, ⟨.type "code", none, .fields ⟨[.str (.ofString "_make") 285, .str (.ofString "Match._make") 286, .str (.ofString "/claim/cut.py") 287, .int 33 0, .int 2 0, .int 0 0, .int 0 0, .int 3 0, .ref 83, .bool true, .int 181 0, .ref 84, .none, .ref 85, .ref 86, .ref 87, .int 291 0, .int 33 0, .str (.ofString "/claim/cut.py") 292]⟩, ⟨[]⟩⟩), (nat_lit 89, ⟨.type "function", none, .func ⟨.ofString "_make", .ofString "Match._make", fArgs (nth (bodyOf (nth p.main.body 3)) 5), .stmts (bodyOf (nth (bodyOf (nth p.main.body 3)) 5)), fScope (nth (bodyOf (nth p.main.body 3)) 5), 3, [], .none, .none, .str (docS (nth (bodyOf (nth p.main.body 3)) 5)) 293, .str (.ofString "cpy313.difflib") 194, (some 92), .ref 88, .none, 0⟩, ⟨[]⟩⟩), (nat_lit 90, ⟨.type "dict", none, .dict ⟨[E P (.ofString "__module__") 295 (.str (.ofString "cpy313.difflib") 194), E P (.ofString "__name__") 298 (.str (.ofString "_make") 297), E P (.ofString "__qualname__") 301 (.str (.ofString "Match._make") 300), E P (.ofString "__doc__") 303 (.str (docS (nth (bodyOf (nth p.main.body 3)) 5)) 293), E P (.ofString "__annotations__") 305 (.ref 92)]⟩ 5, ⟨[]⟩⟩), (nat_lit 91, o91 P), (nat_lit 92, o92 P), (nat_lit 93, o93 P), (nat_lit 94, ⟨.type "tuple", none, .seq ⟨[.str (.ofString "__class__") 310]⟩ 0, ⟨[]⟩⟩), (nat_lit 96, ⟨.type "tuple", none, .seq ⟨[.str (.ofString "self") 311, .str (.ofString "kwds") 312, .str (.ofString "result") 313]⟩ 0, ⟨[]⟩⟩), (nat_lit 97, ⟨.type "tuple", none, .seq ⟨[]⟩ 0, ⟨[]⟩⟩), (nat_lit 99, ⟨.type "code", none, .fields ⟨[.str (.ofString "_replace") 307, .str (.ofString "Match._replace") 308, .str (.ofString "/claim/cut.py") 309, .int 41 0, .int 1 0, .int 1 0, .int 0 0, .int 11 0, .ref 94, .bool true, .int 181 0, .ref 95, .none, .ref 96, .ref 97, .ref 98, .int 314 0, .int 41 0, .str (.ofString "/claim/cut.py") 315]⟩, ⟨[]⟩⟩), (nat_lit 100, ⟨.type "function", none, .func ⟨.ofString "_replace", .ofString "Match._replace", fArgs (nth (bodyOf (nth p.main.body 3)) 6), .stmts (bodyOf (nth (bodyOf (nth p.main.body 3)) 6)), fScope (nth (bodyOf (nth p.main.body 3)) 6), 3, [((.ofString "__class__"), 68)], .none, .none, .str (docS (nth (bodyOf (nth p.main.body 3)) 6)) 316, .str (.ofString "cpy313.difflib") 194, none, .ref 99, .ref 93, 0⟩, ⟨[]⟩⟩), (nat_lit 101, ⟨.type "tuple", none, .seq ⟨[]⟩ 0, ⟨[]⟩⟩), (nat_lit 103, ⟨.type "tuple", none, .seq ⟨[.str (.ofString "self") 322]⟩ 0, ⟨[]⟩⟩), (nat_lit 104, ⟨.type "tuple", none, .seq ⟨[]⟩ 0, ⟨[]⟩⟩), (nat_lit 106, ⟨.type "code", none, .fields ⟨[.str (.ofString "__repr__") 319, .str (.ofString "Match.__repr__") 320, .str (.ofString "/claim/cut.py") 321, .int 52 0, .int 1 0, .int 0 0, .int 0 0, .int 3 0, .ref 101, .bool true, .int 181 0, .ref 102, .none, .ref 103, .ref 104, .ref 105, .int 323 0, .int 52 0, .str (.ofString "/claim/cut.py") 324]⟩, ⟨[]⟩⟩), (nat_lit 107, ⟨.type "function", none, .func ⟨.ofString "__repr__", .ofString "Match.__repr__", fArgs (nth (bodyOf (nth p.main.body 3)) 8), .stmts (bodyOf (nth (bodyOf (nth p.main.body 3)) 8)), fScope (nth (bodyOf (nth p.main.body 3)) 8), 3, [], .none, .none, .str (docS (nth (bodyOf (nth p.main.body 3)) 8)) 325, .str (.ofString "cpy313.difflib") 194, none, .ref 106, .none, 0⟩, ⟨[]⟩⟩), (nat_lit 108, ⟨.type "tuple", none, .seq ⟨[]⟩ 0, ⟨[]⟩⟩), (nat_lit 110, ⟨.type "tuple", none, .seq ⟨[.str (.ofString "self") 330]⟩ 0, ⟨[]⟩⟩), (nat_lit 111, ⟨.type "tuple", none, .seq ⟨[]⟩ 0, ⟨[]⟩⟩), (nat_lit 113, ⟨.type "code", none, .fields ⟨[.str (.ofString "_asdict") 327, .str (.ofString "Match._asdict") 328, .str (.ofString "/claim/cut.py") 329, .int 56 0, .int 1 0, .int 0 0, .int 0 0, .int 3 0, .ref 108, .bool true, .int 181 0, .ref 109, .none, .ref 110, .ref 111, .ref 112, .int 331 0, .int 56 0, .str (.ofString "/claim/cut.py") 332]⟩, ⟨[]⟩⟩), (nat_lit 114, ⟨.type "function", none, .func ⟨.ofString "_asdict", .ofString "Match._asdict", fArgs (nth (bodyOf (nth p.main.body 3)) 9), .stmts (bodyOf (nth (bodyOf (nth p.main.body 3)) 9)), fScope (nth (bodyOf (nth p.main.body 3)) 9), 3, [], .none, .none, .none, .str (.ofString "cpy313.difflib") 194, none, .ref 113, .none, 0⟩, ⟨[]⟩⟩), (nat_lit 115, ⟨.type "tuple", none, .seq ⟨[]⟩ 0, ⟨[]⟩⟩), (nat_lit 117, ⟨.type "tuple", none, .seq ⟨[.str (.ofString "self") 337]⟩ 0, ⟨[]⟩⟩), (nat_lit 118, ⟨.type "tuple", none, .seq ⟨[]⟩ 0, ⟨[]⟩⟩), (nat_lit 120, ⟨.type "code", none, .fields ⟨[.str (.ofString "__getnewargs__") 334, .str (.ofString "Match.__getnewargs__") 335, .str (.ofString "/claim/cut.py") 336, .int 59 0, .int 1 0, .int 0 0, .int 0 0, .int 3 0, .ref 115, .bool true, .int 181 0, .ref 116, .none, .ref 117, .ref 118, .ref 119, .int 338 0, .int 59 0, .str (.ofString "/claim/cut.py") 339]⟩, ⟨[]⟩⟩), (nat_lit 121, ⟨.type "function", none, .func ⟨.ofString "__getnewargs__", .ofString "Match.__getnewargs__", fArgs (nth (bodyOf (nth p.main.body 3)) 10), .stmts (bodyOf (nth (bodyOf (nth p.main.body 3)) 10)), fScope (nth (bodyOf (nth p.main.body 3)) 10), 3, [], .none, .none, .str (docS (nth (bodyOf (nth p.main.body 3)) 10)) 340, .str (.ofString "cpy313.difflib") 194, none, .ref 120, .none, 0⟩, ⟨[]⟩⟩), (nat_lit 122, ⟨.type "tuple", none, .seq ⟨[.str (.ofString "a") 342, .str (.ofString "b") 343, .str (.ofString "size") 344]⟩ 0, ⟨[]⟩⟩), (nat_lit 123, o123 P), (nat_lit 124, o124 P), (nat_lit 126, o126 P), (nat_lit 127, o127 P), (nat_lit 129, o129 P), (nat_lit 130, o130 P), (nat_lit 132, ⟨.type "tuple", none, .seq ⟨[]⟩ 0, ⟨[]⟩⟩), (nat_lit 134, ⟨.type "dict", none, .dict ⟨[E P (.ofString "__module__") 260 (.str (.ofString "cpy313.difflib") 194), E P (.ofString "__firstlineno__") 264 (.int 23 263), E P (.ofString "__doc__") 266 (.str (docS (nth p.main.body 3)) 265), E P (.ofString "__slots__") 268 (.ref 73), E P (.ofString "_fields") 272 (.ref 74), E P (.ofString "_field_defaults") 273 (.ref 75), E P (.ofString "__new__") 284 (.ref 136), E P (.ofString "_make") 306 (.ref 91), E P (.ofString "_replace") 317 (.ref 100), E P (.ofString "__replace__") 318 (.ref 100), E P (.ofString "__repr__") 326 (.ref 107), E P (.ofString "_asdict") 333 (.ref 114), E P (.ofString "__getnewargs__") 341 (.ref 121), E P (.ofString "__match_args__") 345 (.ref 122), E P (.ofString "a") 355 (.ref 124), E P (.ofString "b") 365 (.ref 127), E P (.ofString "size") 375 (.ref 130), E P (.ofString "__static_attributes__") 376 (.ref 132)]⟩ 2, ⟨[]⟩⟩), (nat_lit 135, o135 P), (nat_lit 136, o136 P), (nat_lit 139, ⟨.type "tuple", none, .seq ⟨[]⟩ 0, ⟨[]⟩⟩), (nat_lit 141, ⟨.type "tuple", none, .seq ⟨[.str (.ofString "matches") 384, .str (.ofString "length") 385]⟩ 0, ⟨[]⟩⟩), (nat_lit 142, ⟨.type "tuple", none, .seq ⟨[]⟩ 0, ⟨[]⟩⟩), (nat_lit 144, ⟨.type "code", none, .fields ⟨[.str (.ofString "_calculate_ratio") 381, .str (.ofString "_calculate_ratio") 382, .str (.ofString "/claim/cut.py") 383, .int 66 0, .int 2 0, .int 0 0, .int 0 0, .int 3 0, .ref 139, .bool true, .int 181 0, .ref 140, .none, .ref 141, .ref 142, .ref 143, .int 386 0, .int 66 0, .str (.ofString "/claim/cut.py") 387]⟩, ⟨[]⟩⟩), (nat_lit 145, ⟨.type "function", none, .func ⟨.ofString "_calculate_ratio", .ofString "_calculate_ratio", fArgs (nth p.main.body 4), .stmts (bodyOf (nth p.main.body 4)), fScope (nth p.main.body 4), 3, [], .none, .none, .none, .str (.ofString "cpy313.difflib") 194, none, .ref 144, .none, 0⟩, ⟨[]⟩⟩), (nat_lit 153, o153 P), (nat_lit 154, ⟨.type "tuple", none, .seq ⟨[]⟩ 0, ⟨[]⟩⟩), (nat_lit 156, ⟨.type "tuple", none, .seq ⟨[.str (.ofString "self") 409, .str (.ofString "isjunk") 410, .str (.ofString "a") 411, .str (.ofString "b") 412, .str (.ofString "autojunk") 413]⟩ 0, ⟨[]⟩⟩), (nat_lit 157, ⟨.type "tuple", none, .seq ⟨[]⟩ 0, ⟨[]⟩⟩), (nat_lit 159, ⟨.type "code", none, .fields ⟨[.str (.ofString "__init__") 406, .str (.ofString "SequenceMatcher.__init__") 407, .str (.ofString "/claim/cut.py") 408, .int 145 0, .int 5 0, .int 0 0, .int 0 0, .int 3 0, .ref 154, .bool true, .int 181 0, .ref 155, .none, .ref 156, .ref 157, .ref 158, .int 414 0, .int 145 0, .str (.ofString "/claim/cut.py") 415]⟩, ⟨[]⟩⟩), (nat_lit 160, ⟨.type "function", none, .func ⟨.ofString "__init__", .ofString "SequenceMatcher.__init__", fArgs (nth (bodyOf (nth p.main.body 5)) 1), .stmts (bodyOf (nth (bodyOf (nth p.main.body 5)) 1)), fScope (nth (bodyOf (nth p.main.body 5)) 1), 3, [], .ref 153, .none, .str (docS (nth (bodyOf (nth p.main.body 5)) 1)) 416, .str (.ofString "cpy313.difflib") 194, none, .ref 159, .none, 0⟩, ⟨[]⟩⟩), (nat_lit 161, ⟨.type "tuple", none, .seq ⟨[]⟩ 0, ⟨[]⟩⟩), (nat_lit 163, ⟨.type "tuple", none, .seq ⟨[.str (.ofString "self") 421, .str (.ofString "a") 422, .str (.ofString "b") 423]⟩ 0, ⟨[]⟩⟩), (nat_lit 164, ⟨.type "tuple", none, .seq ⟨[]⟩ 0, ⟨[]⟩⟩), (nat_lit 166, ⟨.type "code", none, .fields ⟨[.str (.ofString "set_seqs") 418, .str (.ofString "SequenceMatcher.set_seqs") 419, .str (.ofString "/claim/cut.py") 420, .int 173 0, .int 3 0, .int 0 0, .int 0 0, .int 3 0, .ref 161, .bool true, .int 181 0, .ref 162, .none, .ref 163, .ref 164, .ref 165, .int 424 0, .int 173 0, .str (.ofString "/claim/cut.py") 425]⟩, ⟨[]⟩⟩), (nat_lit 167, ⟨.type "function", none, .func ⟨.ofString "set_seqs", .ofString "SequenceMatcher.set_seqs", fArgs (nth (bodyOf (nth p.main.body 5)) 2), .stmts (bodyOf (nth (bodyOf (nth p.main.body 5)) 2)), fScope (nth (bodyOf (nth p.main.body 5)) 2), 3, [], .none, .none, .str (docS (nth (bodyOf (nth p.main.body 5)) 2)) 426, .str (.ofString "cpy313.difflib") 194, none, .ref 166, .none, 0⟩, ⟨[]⟩⟩), (nat_lit 168, ⟨.type "tuple", none, .seq ⟨[]⟩ 0, ⟨[]⟩⟩), (nat_lit 170, ⟨.type "tuple", none, .seq ⟨[.str (.ofString "self") 431, .str (.ofString "a") 432]⟩ 0, ⟨[]⟩⟩), (nat_lit 171, ⟨.type "tuple", none, .seq ⟨[]⟩ 0, ⟨[]⟩⟩), (nat_lit 173, ⟨.type "code", none, .fields ⟨[.str (.ofString "set_seq1") 428, .str (.ofString "SequenceMatcher.set_seq1") 429, .str (.ofString "/claim/cut.py") 430, .int 184 0, .int 2 0, .int 0 0, .int 0 0, .int 3 0, .ref 168, .bool true, .int 181 0, .ref 169, .none, .ref 170, .ref 171, .ref 172, .int 433 0, .int 184 0, .str (.ofString "/claim/cut.py") 434]⟩, ⟨[]⟩⟩), (nat_lit 174, ⟨.type "function", none, .func ⟨.ofString "set_seq1", .ofString "SequenceMatcher.set_seq1", fArgs (nth (bodyOf (nth p.main.body 5)) 3), .stmts (bodyOf (nth (bodyOf (nth p.main.body 5)) 3)), fScope (nth (bodyOf (nth p.main.body 5)) 3), 3, [], .none, .none, .str (docS (nth (bodyOf (nth p.main.body 5)) 3)) 435, .str (.ofString "cpy313.difflib") 194, none, .ref 173, .none, 0⟩, ⟨[]⟩⟩), (nat_lit 175, ⟨.type "tuple", none, .seq ⟨[]⟩ 0, ⟨[]⟩⟩), (nat_lit 177, ⟨.type "tuple", none, .seq ⟨[.str (.ofString "self") 440, .str (.ofString "b") 441]⟩ 0, ⟨[]⟩⟩), (nat_lit 178, ⟨.type "tuple", none, .seq ⟨[]⟩ 0, ⟨[]⟩⟩), (nat_lit 180, ⟨.type "code", none, .fields ⟨[.str (.ofString "set_seq2") 437, .str (.ofString "SequenceMatcher.set_seq2") 438, .str (.ofString "/claim/cut.py") 439, .int 209 0, .int 2 0, .int 0 0, .int 0 0, .int 3 0, .ref 175, .bool true, .int 181 0, .ref 176, .none, .ref 177, .ref 178, .ref 179, .int 442 0, .int 209 0, .str (.ofString "/claim/cut.py") 443]⟩, ⟨[]⟩⟩), (nat_lit 181, ⟨.type "function", none, .func ⟨.ofString "set_seq2", .ofString "SequenceMatcher.set_seq2", fArgs (nth (bodyOf (nth p.main.body 5)) 4), .stmts (bodyOf (nth (bodyOf (nth p.main.body 5)) 4)), fScope (nth (bodyOf (nth p.main.body 5)) 4), 3, [], .none, .none, .str (docS (nth (bodyOf (nth p.main.body 5)) 4)) 444, .str (.ofString "cpy313.difflib") 194, none, .ref 180, .none, 0⟩, ⟨[]⟩⟩), (nat_lit 182, ⟨.type "tuple", none, .seq ⟨[]⟩ 0, ⟨[]⟩⟩), (nat_lit 184, ⟨.type "tuple", none, .seq ⟨[.str (.ofString "self") 449, .str (.ofString "b") 450, .str (.ofString "b2j") 451, .str (.ofString "i") 452, .str (.ofString "elt") 453, .str (.ofString "indices") 454, .str (.ofString "junk") 455, .str (.ofString "isjunk") 456, .str (.ofString "popular") 457, .str (.ofString "n") 458, .str (.ofString "ntest") 459, .str (.ofString "idxs") 460]⟩ 0, ⟨[]⟩⟩), (nat_lit 185, ⟨.type "tuple", none, .seq ⟨[]⟩ 0, ⟨[]⟩⟩), (nat_lit 187, ⟨.type "code", none, .fields ⟨[.str (.ofString "__chain_b") 446, .str (.ofString "SequenceMatcher.__chain_b") 447, .str (.ofString "/claim/cut.py") 448, .int 236 0, .int 1 0, .int 0 0, .int 0 0, .int 3 0, .ref 182, .bool true, .int 181 0, .ref 183, .none, .ref 184, .ref 185, .ref 186, .int 461 0, .int 236 0, .str (.ofString "/claim/cut.py") 462]⟩, ⟨[]⟩⟩), (nat_lit 188, ⟨.type "function", none, .func ⟨.ofString "__chain_b", .ofString "SequenceMatcher.__chain_b", fArgs (nth (bodyOf (nth p.main.body 5)) 5), .stmts (bodyOf (nth (bodyOf (nth p.main.body 5)) 5)), fScope (nth (bodyOf (nth p.main.body 5)) 5), 3, [], .none, .none, .none, .str (.ofString "cpy313.difflib") 194, none, .ref 187, .none, 0⟩, ⟨[]⟩⟩), (nat_lit 189, o189 P), (nat_lit 190, ⟨.type "tuple", none, .seq ⟨[]⟩ 0, ⟨[]⟩⟩), (nat_lit 192, ⟨.type "tuple", none, .seq ⟨[.str (.ofString "self") 469, .str (.ofString "alo") 470, .str (.ofString "ahi") 471, .str (.ofString "blo") 472, .str (.ofString "bhi") 473, .str (.ofString "a") 474, .str (.ofString "b") 475, .str (.ofString "b2j") 476, .str (.ofString "isbjunk") 477, .str (.ofString "besti") 478, .str (.ofString "bestj") 479, .str (.ofString "bestsize") 480, .str (.ofString "j2len") 481, .str (.ofString "nothing") 482, .str (.ofString "i") 483, .str (.ofString "j2lenget") 484, .str (.ofString "newj2len") 485, .str (.ofString "j") 486, .str (.ofString "k") 487]⟩ 0, ⟨[]⟩⟩), (nat_lit 193, ⟨.type "tuple", none, .seq ⟨[]⟩ 0, ⟨[]⟩⟩), (nat_lit 195, ⟨.type "code", none, .fields ⟨[.str (.ofString "find_longest_match") 466, .str (.ofString "SequenceMatcher.find_longest_match") 467, .str (.ofString "/claim/cut.py") 468, .int 260 0, .int 5 0, .int 0 0, .int 0 0, .int 3 0, .ref 190, .bool true, .int 181 0, .ref 191, .none, .ref 192, .ref 193, .ref 194, .int 488 0, .int 260 0, .str (.ofString "/claim/cut.py") 489]⟩, ⟨[]⟩⟩), (nat_lit 196, ⟨.type "function", none, .func ⟨.ofString "find_longest_match", .ofString "SequenceMatcher.find_longest_match", fArgs (nth (bodyOf (nth p.main.body 5)) 6), .stmts (bodyOf (nth (bodyOf (nth p.main.body 5)) 6)), fScope (nth (bodyOf (nth p.main.body 5)) 6), 3, [], .ref 189, .none, .str (docS (nth (bodyOf (nth p.main.body 5)) 6)) 490, .str (.ofString "cpy313.difflib") 194, none, .ref 195, .none, 0⟩, ⟨[]⟩⟩), (nat_lit 197, ⟨.type "tuple", none, .seq ⟨[]⟩ 0, ⟨[]⟩⟩), (nat_lit 199, ⟨.type "tuple", none, .seq ⟨[.str (.ofString "self") 495, .str (.ofString "la") 496, .str (.ofString "lb") 497, .str (.ofString "queue") 498, .str (.ofString "matching_blocks") 499, .str (.ofString "alo") 500, .str (.ofString "ahi") 501, .str (.ofString "blo") 502, .str (.ofString "bhi") 503, .str (.ofString "i") 504, .str (.ofString "j") 505, .str (.ofString "k") 506, .str (.ofString "x") 507, .str (.ofString "i1") 508, .str (.ofString "j1") 509, .str (.ofString "k1") 510, .str (.ofString "non_adjacent") 511, .str (.ofString "i2") 512, .str (.ofString "j2") 513, .str (.ofString "k2") 514]⟩ 0, ⟨[]⟩⟩), (nat_lit 200, ⟨.type "tuple", none, .seq ⟨[]⟩ 0, ⟨[]⟩⟩), (nat_lit 202, ⟨.type "code", none, .fields ⟨[.str (.ofString "get_matching_blocks") 492, .str (.ofString "SequenceMatcher.get_matching_blocks") 493, .str (.ofString "/claim/cut.py") 494, .int 335 0, .int 1 0, .int 0 0, .int 0 0, .int 3 0, .ref 197, .bool true, .int 181 0, .ref 198, .none, .ref 199, .ref 200, .ref 201, .int 515 0, .int 335 0, .str (.ofString "/claim/cut.py") 516]⟩, ⟨[]⟩⟩), (nat_lit 203, ⟨.type "function", none, .func ⟨.ofString "get_matching_blocks", .ofString "SequenceMatcher.get_matching_blocks", fArgs (nth (bodyOf (nth p.main.body 5)) 7), .stmts (bodyOf (nth (bodyOf (nth p.main.body 5)) 7)), fScope (nth (bodyOf (nth p.main.body 5)) 7), 3, [], .none, .none, .str (docS (nth (bodyOf (nth p.main.body 5)) 7)) 517, .str (.ofString "cpy313.difflib") 194, none, .ref 202, .none, 0⟩, ⟨[]⟩⟩), (nat_lit 204, ⟨.type "tuple", none, .seq ⟨[]⟩ 0, ⟨[]⟩⟩), (nat_lit 206, ⟨.type "tuple", none, .seq ⟨[.str (.ofString "self") 522]⟩ 0, ⟨[]⟩⟩), (nat_lit 207, ⟨.type "tuple", none, .seq ⟨[]⟩ 0, ⟨[]⟩⟩), (nat_lit 209, ⟨.type "code", none, .fields ⟨[.str (.ofString "get_opcodes") 519, .str (.ofString "SequenceMatcher.get_opcodes") 520, .str (.ofString "/claim/cut.py") 521, .int 383 0, .int 1 0, .int 0 0, .int 0 0, .int 3 0, .ref 204, .bool true, .int 181 0, .ref 205, .none, .ref 206, .ref 207, .ref 208, .int 523 0, .int 383 0, .str (.ofString "/claim/cut.py") 524]⟩, ⟨[]⟩⟩), (nat_lit 210, ⟨.type "function", none, .func ⟨.ofString "get_opcodes", .ofString "SequenceMatcher.get_opcodes", fArgs (nth (bodyOf (nth p.main.body 5)) 8), .stmts (bodyOf (nth (bodyOf (nth p.main.body 5)) 8)), fScope (nth (bodyOf (nth p.main.body 5)) 8), 3, [], .none, .none, .none, .str (.ofString "cpy313.difflib") 194, none, .ref 209, .none, 0⟩, ⟨[]⟩⟩), (nat_lit 211, o211 P), (nat_lit 212, ⟨.type "tuple", none, .seq ⟨[]⟩ 0, ⟨[]⟩⟩), (nat_lit 214, ⟨.type "tuple", none, .seq ⟨[.str (.ofString "self") 530, .str (.ofString "n") 531]⟩ 0, ⟨[]⟩⟩), (nat_lit 215, ⟨.type "tuple", none, .seq ⟨[]⟩ 0, ⟨[]⟩⟩), (nat_lit 217, ⟨.type "code", none, .fields ⟨[.str (.ofString "get_grouped_opcodes") 527, .str (.ofString "SequenceMatcher.get_grouped_opcodes") 528, .str (.ofString "/claim/cut.py") 529, .int 386 0, .int 2 0, .int 0 0, .int 0 0, .int 3 0, .ref 212, .bool true, .int 181 0, .ref 213, .none, .ref 214, .ref 215, .ref 216, .int 532 0, .int 386 0, .str (.ofString "/claim/cut.py") 533]⟩, ⟨[]⟩⟩), (nat_lit 218, ⟨.type "function", none, .func ⟨.ofString "get_grouped_opcodes", .ofString "SequenceMatcher.get_grouped_opcodes", fArgs (nth (bodyOf (nth p.main.body 5)) 9), .stmts (bodyOf (nth (bodyOf (nth p.main.body 5)) 9)), fScope (nth (bodyOf (nth p.main.body 5)) 9), 3, [], .ref 211, .none, .none, .str (.ofString "cpy313.difflib") 194, none, .ref 217, .none, 0⟩, ⟨[]⟩⟩), (nat_lit 219, ⟨.type "tuple", none, .seq ⟨[]⟩ 0, ⟨[]⟩⟩), (nat_lit 221, ⟨.type "tuple", none, .seq ⟨[.str (.ofString "self") 538, .str (.ofString "matches") 539]⟩ 0, ⟨[]⟩⟩), (nat_lit 222, ⟨.type "tuple", none, .seq ⟨[]⟩ 0, ⟨[]⟩⟩), (nat_lit 224, ⟨.type "code", none, .fields ⟨[.str (.ofString "ratio") 535, .str (.ofString "SequenceMatcher.ratio") 536, .str (.ofString "/claim/cut.py") 537, .int 389 0, .int 1 0, .int 0 0, .int 0 0, .int 3 0, .ref 219, .bool true, .int 181 0, .ref 220, .none, .ref 221, .ref 222, .ref 223, .int 540 0, .int 389 0, .str (.ofString "/claim/cut.py") 541]⟩, ⟨[]⟩⟩), (nat_lit 225, ⟨.type "function", none, .func ⟨.ofString "ratio", .ofString "SequenceMatcher.ratio", fArgs (nth (bodyOf (nth p.main.body 5)) 10), .stmts (bodyOf (nth (bodyOf (nth p.main.body 5)) 10)), fScope (nth (bodyOf (nth p.main.body 5)) 10), 3, [], .none, .none, .str (docS (nth (bodyOf (nth p.main.body 5)) 10)) 542, .str (.ofString "cpy313.difflib") 194, none, .ref 224, .none, 0⟩, ⟨[]⟩⟩), (nat_lit 226, ⟨.type "tuple", none, .seq ⟨[]⟩ 0, ⟨[]⟩⟩), (nat_lit 228, ⟨.type "tuple", none, .seq ⟨[.str (.ofString "self") 547]⟩ 0, ⟨[]⟩⟩), (nat_lit 229, ⟨.type "tuple", none, .seq ⟨[]⟩ 0, ⟨[]⟩⟩), (nat_lit 231, ⟨.type "code", none, .fields ⟨[.str (.ofString "quick_ratio") 544, .str (.ofString "SequenceMatcher.quick_ratio") 545, .str (.ofString "/claim/cut.py") 546, .int 413 0, .int 1 0, .int 0 0, .int 0 0, .int 3 0, .ref 226, .bool true, .int 181 0, .ref 227, .none, .ref 228, .ref 229, .ref 230, .int 548 0, .int 413 0, .str (.ofString "/claim/cut.py") 549]⟩, ⟨[]⟩⟩), (nat_lit 232, ⟨.type "function", none, .func ⟨.ofString "quick_ratio", .ofString "SequenceMatcher.quick_ratio", fArgs (nth (bodyOf (nth p.main.body 5)) 11), .stmts (bodyOf (nth (bodyOf (nth p.main.body 5)) 11)), fScope (nth (bodyOf (nth p.main.body 5)) 11), 3, [], .none, .none, .none, .str (.ofString "cpy313.difflib") 194, none, .ref 231, .none, 0⟩, ⟨[]⟩⟩), (nat_lit 233, ⟨.type "tuple", none, .seq ⟨[]⟩ 0, ⟨[]⟩⟩), (nat_lit 235, ⟨.type "tuple", none, .seq ⟨[.str (.ofString "self") 554]⟩ 0, ⟨[]⟩⟩), (nat_lit 236, ⟨.type "tuple", none, .seq ⟨[]⟩ 0, ⟨[]⟩⟩), (nat_lit 238, ⟨.type "code", none, .fields ⟨[.str (.ofString "real_quick_ratio") 551, .str (.ofString "SequenceMatcher.real_quick_ratio") 552, .str (.ofString "/claim/cut.py") 553, .int 416 0, .int 1 0, .int 0 0, .int 0 0, .int 3 0, .ref 233, .bool true, .int 181 0, .ref 234, .none, .ref 235, .ref 236, .ref 237, .int 555 0, .int 416 0, .str (.ofString "/claim/cut.py") 556]⟩, ⟨[]⟩⟩), (nat_lit 239, ⟨.type "function", none, .func ⟨.ofString "real_quick_ratio", .ofString "SequenceMatcher.real_quick_ratio", fArgs (nth (bodyOf (nth p.main.body 5)) 12), .stmts (bodyOf (nth (bodyOf (nth p.main.body 5)) 12)), fScope (nth (bodyOf (nth p.main.body 5)) 12), 3, [], .none, .none, .none, .str (.ofString "cpy313.difflib") 194, none, .ref 238, .none, 0⟩, ⟨[]⟩⟩), (nat_lit 240, ⟨.type "tuple", none, .seq ⟨[.str (.ofString "a") 558, .str (.ofString "autojunk") 559, .str (.ofString "b") 560, .str (.ofString "b2j") 561, .str (.ofString "bjunk") 562, .str (.ofString "bpopular") 563, .str (.ofString "fullbcount") 564, .str (.ofString "isjunk") 565, .str (.ofString "matching_blocks") 566, .str (.ofString "opcodes") 567]⟩ 0, ⟨[]⟩⟩), (nat_lit 241, ⟨.type "dict", none, .dict ⟨[E P (.ofString "__module__") 396 (.str (.ofString "cpy313.difflib") 194), E P (.ofString "__firstlineno__") 400 (.int 70 399), E P (.ofString "__doc__") 402 (.str (docS (nth p.main.body 5)) 401), E P (.ofString "__init__") 417 (.ref 160), E P (.ofString "set_seqs") 427 (.ref 167), E P (.ofString "set_seq1") 436 (.ref 174), E P (.ofString "set_seq2") 445 (.ref 181), E P (.ofString "_SequenceMatcher__chain_b") 463 (.ref 188), E P (.ofString "find_longest_match") 491 (.ref 196), E P (.ofString "get_matching_blocks") 518 (.ref 203), E P (.ofString "get_opcodes") 525 (.ref 210), E P (.ofString "get_grouped_opcodes") 534 (.ref 218), E P (.ofString "ratio") 543 (.ref 225), E P (.ofString "quick_ratio") 550 (.ref 232), E P (.ofString "real_quick_ratio") 557 (.ref 239), E P (.ofString "__static_attributes__") 568 (.ref 240), E P (.ofString "__dict__") 570 (.ref 243), E P (.ofString "__weakref__") 572 (.ref 244)]⟩ 3, ⟨[]⟩⟩), (nat_lit 242, o242 P), (nat_lit 243, o243 P), (nat_lit 244, o244 P), (nat_lit 247, ⟨.type "tuple", none, .seq ⟨[]⟩ 0, ⟨[]⟩⟩), (nat_lit 249, ⟨.type "tuple", none, .seq ⟨[.str (.ofString "x") 580, .str (.ofString "what") 581, .str (.ofString "kind") 582]⟩ 0, ⟨[]⟩⟩), (nat_lit 250, ⟨.type "tuple", none, .seq ⟨[]⟩ 0, ⟨[]⟩⟩), (nat_lit 252, ⟨.type "code", none, .fields ⟨[.str (.ofString "_plain_name") 577, .str (.ofString "_plain_name") 578, .str (.ofString "/claim/cut.py") 579, .int 419 0, .int 2 0, .int 0 0, .int 0 0, .int 3 0, .ref 247, .bool true, .int 181 0, .ref 248, .none, .ref 249, .ref 250, .ref 251, .int 583 0, .int 419 0, .str (.ofString "/claim/cut.py") 584]⟩, ⟨[]⟩⟩), (nat_lit 253, ⟨.type "function", none, .func ⟨.ofString "_plain_name", .ofString "_plain_name", fArgs (nth p.main.body 7), .stmts (bodyOf (nth p.main.body 7)), fScope (nth p.main.body 7), 3, [], .none, .none, .none, .str (.ofString "os") 575, none, .ref 252, .none, 0⟩, ⟨[]⟩⟩), (nat_lit 254, o254 P), (nat_lit 261, ⟨.type "tuple", none, .seq ⟨[]⟩ 0, ⟨[]⟩⟩), (nat_lit 263, ⟨.type "tuple", none, .seq ⟨[.str (.ofString "cls") 603, .str (.ofString "subclass") 604]⟩ 0, ⟨[]⟩⟩), (nat_lit 264, ⟨.type "tuple", none, .seq ⟨[]⟩ 0, ⟨[]⟩⟩), (nat_lit 266, ⟨.type "code", none, .fields ⟨[.str (.ofString "register") 600, .str (.ofString "ABCMeta.register") 601, .str (.ofString "/claim/cut.py") 602, .int 427 0, .int 2 0, .int 0 0, .int 0 0, .int 3 0, .ref 261, .bool true, .int 181 0, .ref 262, .none, .ref 263, .ref 264, .ref 265, .int 605 0, .int 427 0, .str (.ofString "/claim/cut.py") 606]⟩, ⟨[]⟩⟩), (nat_lit 267, ⟨.type "function", none, .func ⟨.ofString "register", .ofString "ABCMeta.register", fArgs (nth (bodyOf (nth p.main.body 9)) 0), .stmts (bodyOf (nth (bodyOf (nth p.main.body 9)) 0)), fScope (nth (bodyOf (nth p.main.body 9)) 0), 3, [], .none, .none, .none, .str (.ofString "abc") 586, none, .ref 266, .none, 0⟩, ⟨[]⟩⟩), (nat_lit 268, ⟨.type "tuple", none, .seq ⟨[]⟩ 0, ⟨[]⟩⟩), (nat_lit 269, o269 P), (nat_lit 270, o270 P), (nat_lit 273, o273 P), (nat_lit 280, ⟨.type "tuple", none, .seq ⟨[]⟩ 0, ⟨[]⟩⟩), (nat_lit 282, ⟨.type "tuple", none, .seq ⟨[.str (.ofString "cls") 629, .str (.ofString "instance") 630, .str (.ofString "C") 631]⟩ 0, ⟨[]⟩⟩), (nat_lit 283, ⟨.type "tuple", none, .seq ⟨[]⟩ 0, ⟨[]⟩⟩), (nat_lit 285, ⟨.type "code", none, .fields ⟨[.str (.ofString "__instancecheck__") 626, .str (.ofString "_ABCLike.__instancecheck__") 627, .str (.ofString "/claim/cut.py") 628, .int 432 0, .int 2 0, .int 0 0, .int 0 0, .int 3 0, .ref 280, .bool true, .int 181 0, .ref 281, .none, .ref 282, .ref 283, .ref 284, .int 632 0, .int 432 0, .str (.ofString "/claim/cut.py") 633]⟩, ⟨[]⟩⟩), (nat_lit 286, ⟨.type "function", none, .func ⟨.ofString "__instancecheck__", .ofString "_ABCLike.__instancecheck__", fArgs (nth (bodyOf (nth p.main.body 11)) 0), .stmts (bodyOf (nth (bodyOf (nth p.main.body 11)) 0)), fScope (nth (bodyOf (nth p.main.body 11)) 0), 3, [], .none, .none, .none, .str (.ofString "collections.abc") 612, none, .ref 285, .none, 0⟩, ⟨[]⟩⟩), (nat_lit 287, ⟨.type "tuple", none, .seq ⟨[]⟩ 0, ⟨[]⟩⟩), (nat_lit 289, ⟨.type "tuple", none, .seq ⟨[.str (.ofString "cls") 638, .str (.ofString "C") 639]⟩ 0, ⟨[]⟩⟩), (nat_lit 290, ⟨.type "tuple", none, .seq ⟨[]⟩ 0, ⟨[]⟩⟩), (nat_lit 292, ⟨.type "code", none, .fields ⟨[.str (.ofString "__subclasscheck__") 635, .str (.ofString "_ABCLike.__subclasscheck__") 636, .str (.ofString "/claim/cut.py") 637, .int 438 0, .int 2 0, .int 0 0, .int 0 0, .int 3 0, .ref 287, .bool true, .int 181 0, .ref 288, .none, .ref 289, .ref 290, .ref 291, .int 640 0, .int 438 0, .str (.ofString "/claim/cut.py") 641]⟩, ⟨[]⟩⟩), (nat_lit 293, ⟨.type "function", none, .func ⟨.ofString "__subclasscheck__", .ofString "_ABCLike.__subclasscheck__", fArgs (nth (bodyOf (nth p.main.body 11)) 1), .stmts (bodyOf (nth (bodyOf (nth p.main.body 11)) 1)), fScope (nth (bodyOf (nth p.main.body 11)) 1), 3, [], .none, .none, .none, .str (.ofString "collections.abc") 612, none, .ref 292, .none, 0⟩, ⟨[]⟩⟩), (nat_lit 294, ⟨.type "tuple", none, .seq ⟨[]⟩ 0, ⟨[]⟩⟩), (nat_lit 296, ⟨.type "tuple", none, .seq ⟨[.str (.ofString "cls") 646, .str (.ofString "subclass") 647]⟩ 0, ⟨[]⟩⟩), (nat_lit 297, ⟨.type "tuple", none, .seq ⟨[]⟩ 0, ⟨[]⟩⟩), (nat_lit 299, ⟨.type "code", none, .fields ⟨[.str (.ofString "register") 643, .str (.ofString "_ABCLike.register") 644, .str (.ofString "/claim/cut.py") 645, .int 443 0, .int 2 0, .int 0 0, .int 0 0, .int 3 0, .ref 294, .bool true, .int 181 0, .ref 295, .none, .ref 296, .ref 297, .ref 298, .int 648 0, .int 443 0, .str (.ofString "/claim/cut.py") 649]⟩, ⟨[]⟩⟩), (nat_lit 300, ⟨.type "function", none, .func ⟨.ofString "register", .ofString "_ABCLike.register", fArgs (nth (bodyOf (nth p.main.body 11)) 2), .stmts (bodyOf (nth (bodyOf (nth p.main.body 11)) 2)), fScope (nth (bodyOf (nth p.main.body 11)) 2), 3, [], .none, .none, .none, .str (.ofString "collections.abc") 612, none, .ref 299, .none, 0⟩, ⟨[]⟩⟩), (nat_lit 301, ⟨.type "tuple", none, .seq ⟨[]⟩ 0, ⟨[]⟩⟩), (nat_lit 302, o302 P), (nat_lit 303, o303 P), (nat_lit 306, ⟨.type "tuple", none, .seq ⟨[]⟩ 0, ⟨[]⟩⟩), (nat_lit 308, ⟨.type "tuple", none, .seq ⟨[.str (.ofString "C") 658]⟩ 0, ⟨[]⟩⟩), (nat_lit 309, ⟨.type "tuple", none, .seq ⟨[]⟩ 0, ⟨[]⟩⟩), (nat_lit 311, ⟨.type "code", none, .fields ⟨[.str (.ofString "_abc_plain_meta") 655, .str (.ofString "_abc_plain_meta") 656, .str (.ofString "/claim/cut.py") 657, .int 445 0, .int 1 0, .int 0 0, .int 0 0, .int 3 0, .ref 306, .bool true, .int 181 0, .ref 307, .none, .ref 308, .ref 309, .ref 310, .int 659 0, .int 445 0, .str (.ofString "/claim/cut.py") 660]⟩, ⟨[]⟩⟩), (nat_lit 312, ⟨.type "function", none, .func ⟨.ofString "_abc_plain_meta", .ofString "_abc_plain_meta", fArgs (nth p.main.body 12), .stmts (bodyOf (nth p.main.body 12)), fScope (nth p.main.body 12), 3, [], .none, .none, .none, .str (.ofString "collections.abc") 612, none, .ref 311, .none, 0⟩, ⟨[]⟩⟩), (nat_lit 313, ⟨.type "tuple", none, .seq ⟨[]⟩ 0, ⟨[]⟩⟩), (nat_lit 315, ⟨.type "tuple", none, .seq ⟨[.str (.ofString "path") 667, .str (.ofString "kind") 668, .str (.ofString "hook") 669, .str (.ofString "given") 670]⟩ 0, ⟨[]⟩⟩), (nat_lit 316, ⟨.type "tuple", none, .seq ⟨[]⟩ 0, ⟨[]⟩⟩), (nat_lit 318, ⟨.type "code", none, .fields ⟨[.str (.ofString "fspath") 664, .str (.ofString "fspath") 665, .str (.ofString "/claim/cut.py") 666, .int 449 0, .int 1 0, .int 0 0, .int 0 0, .int 3 0, .ref 313, .bool true, .int 181 0, .ref 314, .none, .ref 315, .ref 316, .ref 317, .int 671 0, .int 449 0, .str (.ofString "/claim/cut.py") 672]⟩, ⟨[]⟩⟩), (nat_lit 319, ⟨.type "function", none, .func ⟨.ofString "fspath", .ofString "fspath", fArgs (nth p.main.body 14), .stmts (bodyOf (nth p.main.body 14)), fScope (nth p.main.body 14), 3, [], .none, .none, .none, .str (.ofString "os") 662, none, .ref 318, .none, 0⟩, ⟨[]⟩⟩), (nat_lit 320, ⟨.type "tuple", none, .seq ⟨[]⟩ 0, ⟨[]⟩⟩), (nat_lit 322, ⟨.type "tuple", none, .seq ⟨[.str (.ofString "funcname") 679, .str (.ofString "args") 680, .str (.ofString "hasstr") 681, .str (.ofString "hasbytes") 682, .str (.ofString "s") 683]⟩ 0, ⟨[]⟩⟩), (nat_lit 323, ⟨.type "tuple", none, .seq ⟨[]⟩ 0, ⟨[]⟩⟩), (nat_lit 325, ⟨.type "code", none, .fields ⟨[.str (.ofString "_check_arg_types") 676, .str (.ofString "_check_arg_types") 677, .str (.ofString "/claim/cut.py") 678, .int 466 0, .int 1 0, .int 0 0, .int 0 0, .int 7 0, .ref 320, .bool true, .int 181 0, .ref 321, .none, .ref 322, .ref 323, .ref 324, .int 684 0, .int 466 0, .str (.ofString "/claim/cut.py") 685]⟩, ⟨[]⟩⟩), (nat_lit 326, ⟨.type "function", none, .func ⟨.ofString "_check_arg_types", .ofString "_check_arg_types", fArgs (nth p.main.body 16), .stmts (bodyOf (nth p.main.body 16)), fScope (nth p.main.body 16), 3, [], .none, .none, .none, .str (.ofString "cpy313.genericpath") 674, none, .ref 325, .none, 0⟩, ⟨[]⟩⟩), (nat_lit 327, ⟨.type "tuple", none, .seq ⟨[]⟩ 0, ⟨[]⟩⟩), (nat_lit 329, ⟨.type "tuple", none, .seq ⟨[.str (.ofString "path") 692]⟩ 0, ⟨[]⟩⟩), (nat_lit 330, ⟨.type "tuple", none, .seq ⟨[]⟩ 0, ⟨[]⟩⟩), (nat_lit 332, ⟨.type "code", none, .fields ⟨[.str (.ofString "_get_sep") 689, .str (.ofString "_get_sep") 690, .str (.ofString "/claim/cut.py") 691, .int 478 0, .int 1 0, .int 0 0, .int 0 0, .int 3 0, .ref 327, .bool true, .int 181 0, .ref 328, .none, .ref 329, .ref 330, .ref 331, .int 693 0, .int 478 0, .str (.ofString "/claim/cut.py") 694]⟩, ⟨[]⟩⟩), (nat_lit 333, ⟨.type "function", none, .func ⟨.ofString "_get_sep", .ofString "_get_sep", fArgs (nth p.main.body 18), .stmts (bodyOf (nth p.main.body 18)), fScope (nth p.main.body 18), 3, [], .none, .none, .none, .str (.ofString "cpy313.posixpath") 687, none, .ref 332, .none, 0⟩, ⟨[]⟩⟩), (nat_lit 334, ⟨.type "tuple", none, .seq ⟨[]⟩ 0, ⟨[]⟩⟩), (nat_lit 336, ⟨.type "tuple", none, .seq ⟨[.str (.ofString "p") 699, .str (.ofString "sep") 700, .str (.ofString "i") 701]⟩ 0, ⟨[]⟩⟩), (nat_lit 337, ⟨.type "tuple", none, .seq ⟨[]⟩ 0, ⟨[]⟩⟩), (nat_lit 339, ⟨.type "code", none, .fields ⟨[.str (.ofString "basename") 696, .str (.ofString "basename") 697, .str (.ofString "/claim/cut.py") 698, .int 483 0, .int 1 0, .int 0 0, .int 0 0, .int 3 0, .ref 334, .bool true, .int 181 0, .ref 335, .none, .ref 336, .ref 337, .ref 338, .int 702 0, .int 483 0, .str (.ofString "/claim/cut.py") 703]⟩, ⟨[]⟩⟩), (nat_lit 340, ⟨.type "function", none, .func ⟨.ofString "basename", .ofString "basename", fArgs (nth p.main.body 19), .stmts (bodyOf (nth p.main.body 19)), fScope (nth p.main.body 19), 3, [], .none, .none, .str (docS (nth p.main.body 19)) 704, .str (.ofString "cpy313.posixpath") 687, none, .ref 339, .none, 0⟩, ⟨[]⟩⟩), (nat_lit 341, ⟨.type "tuple", none, .seq ⟨[]⟩ 0, ⟨[]⟩⟩), (nat_lit 343, ⟨.type "tuple", none, .seq ⟨[.str (.ofString "p") 709, .str (.ofString "sep") 710, .str (.ofString "i") 711, .str (.ofString "head") 712]⟩ 0, ⟨[]⟩⟩), (nat_lit 344, ⟨.type "tuple", none, .seq ⟨[]⟩ 0, ⟨[]⟩⟩), (nat_lit 346, ⟨.type "code", none, .fields ⟨[.str (.ofString "dirname") 706, .str (.ofString "dirname") 707, .str (.ofString "/claim/cut.py") 708, .int 489 0, .int 1 0, .int 0 0, .int 0 0, .int 3 0, .ref 341, .bool true, .int 181 0, .ref 342, .none, .ref 343, .ref 344, .ref 345, .int 713 0, .int 489 0, .str (.ofString "/claim/cut.py") 714]⟩, ⟨[]⟩⟩), (nat_lit 347, ⟨.type "function", none, .func ⟨.ofString "dirname", .ofString "dirname", fArgs (nth p.main.body 20), .stmts (bodyOf (nth p.main.body 20)), fScope (nth p.main.body 20), 3, [], .none, .none, .str (docS (nth p.main.body 20)) 715, .str (.ofString "cpy313.posixpath") 687, none, .ref 346, .none, 0⟩, ⟨[]⟩⟩), (nat_lit 348, ⟨.type "tuple", none, .seq ⟨[]⟩ 0, ⟨[]⟩⟩), (nat_lit 351, ⟨.type "code", none, .fields ⟨[.str (.ofString "commonpath") 717, .str (.ofString "commonpath") 718, .str (.ofString "/claim/cut.py") 719, .int 498 0, .int 1 0, .int 0 0, .int 0 0, .int 3 0, .ref 348, .bool true, .int 181 0, .ref 349, .none, .none, .none, .ref 350, .int 720 0, .int 498 0, .str (.ofString "/claim/cut.py") 721]⟩, ⟨[]⟩⟩), (nat_lit 352, ⟨.type "function", none, .func ⟨.ofString "commonpath", .ofString "commonpath", fArgs (nth p.main.body 21), .stmts (bodyOf (nth p.main.body 21)), fScope (nth p.main.body 21), 3, [], .none, .none, .str (docS (nth p.main.body 21)) 722, .str (.ofString "cpy313.posixpath") 687, none, .ref 351, .none, 0⟩, ⟨[]⟩⟩), (nat_lit 353, ⟨.type "tuple", none, .seq ⟨[]⟩ 0, ⟨[]⟩⟩), (nat_lit 355, ⟨.type "tuple", none, .seq ⟨[.str (.ofString "numbers") 729, .str (.ofString "rows") 730, .str (.ofString "x") 731, .str (.ofString "row") 732]⟩ 0, ⟨[]⟩⟩), (nat_lit 356, ⟨.type "tuple", none, .seq ⟨[]⟩ 0, ⟨[]⟩⟩), (nat_lit 358, ⟨.type "code", none, .fields ⟨[.str (.ofString "_law_rows") 726, .str (.ofString "_law_rows") 727, .str (.ofString "/claim/cut.py") 728, .int 529 0, .int 1 0, .int 0 0, .int 0 0, .int 3 0, .ref 353, .bool true, .int 181 0, .ref 354, .none, .ref 355, .ref 356, .ref 357, .int 733 0, .int 529 0, .str (.ofString "/claim/cut.py") 734]⟩, ⟨[]⟩⟩), (nat_lit 359, ⟨.type "function", none, .func ⟨.ofString "_law_rows", .ofString "_law_rows", fArgs (nth p.main.body 23), .stmts (bodyOf (nth p.main.body 23)), fScope (nth p.main.body 23), 3, [], .none, .none, .none, .str (.ofString "law_pd0088_01") 724, none, .ref 358, .none, 0⟩, ⟨[]⟩⟩), (nat_lit 360, ⟨.type "tuple", none, .seq ⟨[]⟩ 0, ⟨[]⟩⟩), (nat_lit 362, ⟨.type "tuple", none, .seq ⟨[.str (.ofString "row") 739, .str (.ofString "start") 740, .str (.ofString "stop") 741, .str (.ofString "count") 742, .str (.ofString "text") 743, .str (.ofString "piece") 744]⟩ 0, ⟨[]⟩⟩), (nat_lit 363, ⟨.type "tuple", none, .seq ⟨[]⟩ 0, ⟨[]⟩⟩), (nat_lit 365, ⟨.type "code", none, .fields ⟨[.str (.ofString "_law_text") 736, .str (.ofString "_law_text") 737, .str (.ofString "/claim/cut.py") 738, .int 536 0, .int 3 0, .int 0 0, .int 0 0, .int 3 0, .ref 360, .bool true, .int 181 0, .ref 361, .none, .ref 362, .ref 363, .ref 364, .int 745 0, .int 536 0, .str (.ofString "/claim/cut.py") 746]⟩, ⟨[]⟩⟩), (nat_lit 366, ⟨.type "function", none, .func ⟨.ofString "_law_text", .ofString "_law_text", fArgs (nth p.main.body 24), .stmts (bodyOf (nth p.main.body 24)), fScope (nth p.main.body 24), 3, [], .none, .none, .none, .str (.ofString "law_pd0088_01") 724, none, .ref 365, .none, 0⟩, ⟨[]⟩⟩), (nat_lit 367, ⟨.type "tuple", none, .seq ⟨[]⟩ 0, ⟨[]⟩⟩), (nat_lit 369, ⟨.type "tuple", none, .seq ⟨[.str (.ofString "path") 751, .str (.ofString "names") 752]⟩ 0, ⟨[]⟩⟩), (nat_lit 370, ⟨.type "tuple", none, .seq ⟨[]⟩ 0, ⟨[]⟩⟩), (nat_lit 372, ⟨.type "code", none, .fields ⟨[.str (.ofString "_law_up") 748, .str (.ofString "_law_up") 749, .str (.ofString "/claim/cut.py") 750, .int 545 0, .int 1 0, .int 0 0, .int 0 0, .int 3 0, .ref 367, .bool true, .int 181 0, .ref 368, .none, .ref 369, .ref 370, .ref 371, .int 753 0, .int 545 0, .str (.ofString "/claim/cut.py") 754]⟩, ⟨[]⟩⟩), (nat_lit 373, ⟨.type "function", none, .func ⟨.ofString "_law_up", .ofString "_law_up", fArgs (nth p.main.body 25), .stmts (bodyOf (nth p.main.body 25)), fScope (nth p.main.body 25), 3, [], .none, .none, .none, .str (.ofString "law_pd0088_01") 724, none, .ref 372, .none, 0⟩, ⟨[]⟩⟩), (nat_lit 374, ⟨.type "tuple", none, .seq ⟨[]⟩ 0, ⟨[]⟩⟩), (nat_lit 376, ⟨.type "tuple", none, .seq ⟨[.str (.ofString "first") 759, .str (.ofString "last") 760, .str (.ofString "size") 761]⟩ 0, ⟨[]⟩⟩), (nat_lit 377, ⟨.type "tuple", none, .seq ⟨[]⟩ 0, ⟨[]⟩⟩), (nat_lit 379, ⟨.type "code", none, .fields ⟨[.str (.ofString "_law_same") 756, .str (.ofString "_law_same") 757, .str (.ofString "/claim/cut.py") 758, .int 552 0, .int 2 0, .int 0 0, .int 0 0, .int 3 0, .ref 374, .bool true, .int 181 0, .ref 375, .none, .ref 376, .ref 377, .ref 378, .int 762 0, .int 552 0, .str (.ofString "/claim/cut.py") 763]⟩, ⟨[]⟩⟩), (nat_lit 380, ⟨.type "function", none, .func ⟨.ofString "_law_same", .ofString "_law_same", fArgs (nth p.main.body 26), .stmts (bodyOf (nth p.main.body 26)), fScope (nth p.main.body 26), 3, [], .none, .none, .none, .str (.ofString "law_pd0088_01") 724, none, .ref 379, .none, 0⟩, ⟨[]⟩⟩), (nat_lit 381, ⟨.type "tuple", none, .seq ⟨[]⟩ 0, ⟨[]⟩⟩), (nat_lit 384, ⟨.type "code", none, .fields ⟨[.str (.ofString "_law_window") 765, .str (.ofString "_law_window") 766, .str (.ofString "/claim/cut.py") 767, .int 557 0, .int 5 0, .int 0 0, .int 0 0, .int 3 0, .ref 381, .bool true, .int 181 0, .ref 382, .none, .none, .none, .ref 383, .int 768 0, .int 557 0, .str (.ofString "/claim/cut.py") 769]⟩, ⟨[]⟩⟩), (nat_lit 385, ⟨.type "function", none, .func ⟨.ofString "_law_window", .ofString "_law_window", fArgs (nth p.main.body 27), .stmts (bodyOf (nth p.main.body 27)), fScope (nth p.main.body 27), 3, [], .none, .none, .none, .str (.ofString "law_pd0088_01") 724, none, .ref 384, .none, 0⟩, ⟨[]⟩⟩), (nat_lit 386, ⟨.type "tuple", none, .seq ⟨[]⟩ 0, ⟨[]⟩⟩), (nat_lit 388, ⟨.type "tuple", none, .seq ⟨[.str (.ofString "rows") 774, .str (.ofString "alo") 775, .str (.ofString "ahi") 776, .str (.ofString "blo") 777, .str (.ofString "bhi") 778, .str (.ofString "ahead") 779, .str (.ofString "behind") 780, .str (.ofString "size") 781, .str (.ofString "i") 782, .str (.ofString "j") 783, .str (.ofString "first") 784, .str (.ofString "last") 785]⟩ 0, ⟨[]⟩⟩), (nat_lit 389, ⟨.type "tuple", none, .seq ⟨[]⟩ 0, ⟨[]⟩⟩), (nat_lit 391, ⟨.type "code", none, .fields ⟨[.str (.ofString "_law_blocks") 771, .str (.ofString "_law_blocks") 772, .str (.ofString "/claim/cut.py") 773, .int 572 0, .int 5 0, .int 0 0, .int 0 0, .int 3 0, .ref 386, .bool true, .int 181 0, .ref 387, .none, .ref 388, .ref 389, .ref 390, .int 786 0, .int 572 0, .str (.ofString "/claim/cut.py") 787]⟩, ⟨[]⟩⟩), (nat_lit 392, ⟨.type "function", none, .func ⟨.ofString "_law_blocks", .ofString "_law_blocks", fArgs (nth p.main.body 28), .stmts (bodyOf (nth p.main.body 28)), fScope (nth p.main.body 28), 3, [], .none, .none, .none, .str (.ofString "law_pd0088_01") 724, none, .ref 391, .none, 0⟩, ⟨[]⟩⟩), (nat_lit 393, ⟨.type "tuple", none, .seq ⟨[]⟩ 0, ⟨[]⟩⟩), (nat_lit 396, ⟨.type "code", none, .fields ⟨[.str (.ofString "law") 789, .str (.ofString "law") 790, .str (.ofString "/claim/cut.py") 791, .int 586 0, .int 1 0, .int 0 0, .int 0 0, .int 3 0, .ref 393, .bool true, .int 181 0, .ref 394, .none, .none, .none, .ref 395, .int 792 0, .int 586 0, .str (.ofString "/claim/cut.py") 793]⟩, ⟨[]⟩⟩), (nat_lit 397, ⟨.type "function", none, .func ⟨.ofString "law", .ofString "law", fArgs (nth p.main.body 29), .stmts (bodyOf (nth p.main.body 29)), fScope (nth p.main.body 29), 3, [], .none, .none, .none, .str (.ofString "law_pd0088_01") 724, none, .ref 396, .none, 0⟩, ⟨[]⟩⟩)] : List (Nat × Obj))) = ?k) → Program → Params → List (Nat × Obj)) ?h
 case h =>
  have h := wds
  delta o2 o3 o36 o59 o60 o61 o62 o65 o68 o75 o91 o92 o93 o123 o124 o126 o127 o129 o130 o135 o136 o153 o189 o211 o242 o243 o244 o254 o269 o270 o273 o302 o303
  conv =>
   lhs
   simp only [h]
   repeat rw [PySem.W.Fast.ofString_ofList]
   simp only [List.map_cons, List.map_nil, Char.reduceToNat]
 case f => exact fun _ => ?k
noncomputable def kO (P : Params) (i : Nat) : Obj := ((KLd pw P).getD i (0, o3 P)).2
noncomputable def KW (P : Params) : Frag := (nat_lit 2, o2 P) :: (nat_lit 3, o3 P) :: (nat_lit 15, kO P 2) :: (nat_lit 17, kO P 3) :: (nat_lit 18, kO P 4) :: (nat_lit 20, kO P 5) :: (nat_lit 21, o21 P) :: (nat_lit 29, kO P 7) :: (nat_lit 31, kO P 8) :: (nat_lit 32, kO P 9) :: (nat_lit 34, kO P 10) :: (nat_lit 35, o35 P) :: (nat_lit 36, o36 P) :: (nat_lit 37, kO P 13) :: (nat_lit 39, kO P 14) :: (nat_lit 40, kO P 15) :: (nat_lit 42, kO P 16) :: (nat_lit 43, o43 P) :: (nat_lit 44, kO P 18) :: (nat_lit 46, kO P 19) :: (nat_lit 47, kO P 20) :: (nat_lit 49, kO P 21) :: (nat_lit 50, o50 P) :: (nat_lit 51, kO P 23) :: (nat_lit 53, kO P 24) :: (nat_lit 54, kO P 25) :: (nat_lit 56, kO P 26) :: (nat_lit 57, o57 P) :: (nat_lit 58, kO P 28) :: (nat_lit 59, o59 P) :: (nat_lit 60, o60 P) :: (nat_lit 61, o61 P) :: (nat_lit 62, o62 P) :: (nat_lit 65, o65 P) :: (nat_lit 68, o68 P) :: (nat_lit 73, kO P 35) :: (nat_lit 74, kO P 36) :: (nat_lit 75, o75 P) :: (nat_lit 76, kO P 38) :: (nat_lit 78, kO P 39) :: (nat_lit 79, kO P 40) :: (nat_lit 81, kO P 41) :: (nat_lit 82, o82 P) :: (nat_lit 83, kO P 43) :: (nat_lit 85, kO P 44) :: (nat_lit 86, kO P 45) :: (nat_lit 88, kO P 46) :: (nat_lit 89, o89 P) :: (nat_lit 90, o90 P) :: (nat_lit 91, o91 P) :: (nat_lit 92, o92 P) :: (nat_lit 93, o93 P) :: (nat_lit 94, kO P 52) :: (nat_lit 96, kO P 53) :: (nat_lit 97, kO P 54) :: (nat_lit 99, kO P 55) :: (nat_lit 100, o100 P) :: (nat_lit 101, kO P 57) :: (nat_lit 103, kO P 58) :: (nat_lit 104, kO P 59) :: (nat_lit 106, kO P 60) :: (nat_lit 107, o107 P) :: (nat_lit 108, kO P 62) :: (nat_lit 110, kO P 63) :: (nat_lit 111, kO P 64) :: (nat_lit 113, kO P 65) :: (nat_lit 114, o114 P) :: (nat_lit 115, kO P 67) :: (nat_lit 117, kO P 68) :: (nat_lit 118, kO P 69) :: (nat_lit 120, kO P 70) :: (nat_lit 121, o121 P) :: (nat_lit 122, kO P 72) :: (nat_lit 123, o123 P) :: (nat_lit 124, o124 P) :: (nat_lit 126, o126 P) :: (nat_lit 127, o127 P) :: (nat_lit 129, o129 P) :: (nat_lit 130, o130 P) :: (nat_lit 132, kO P 79) :: (nat_lit 134, o134 P) :: (nat_lit 135, o135 P) :: (nat_lit 136, o136 P) :: (nat_lit 139, kO P 83) :: (nat_lit 141, kO P 84) :: (nat_lit 142, kO P 85) :: (nat_lit 144, kO P 86) :: (nat_lit 145, o145 P) :: (nat_lit 153, o153 P) :: (nat_lit 154, kO P 89) :: (nat_lit 156, kO P 90) :: (nat_lit 157, kO P 91) :: (nat_lit 159, kO P 92) :: (nat_lit 160, o160 P) :: (nat_lit 161, kO P 94) :: (nat_lit 163, kO P 95) :: (nat_lit 164, kO P 96) :: (nat_lit 166, kO P 97) :: (nat_lit 167, o167 P) :: (nat_lit 168, kO P 99) :: (nat_lit 170, kO P 100) :: (nat_lit 171, kO P 101) :: (nat_lit 173, kO P 102) :: (nat_lit 174, o174 P) :: (nat_lit 175, kO P 104) :: (nat_lit 177, kO P 105) :: (nat_lit 178, kO P 106) :: (nat_lit 180, kO P 107) :: (nat_lit 181, o181 P) :: (nat_lit 182, kO P 109) :: (nat_lit 184, kO P 110) :: (nat_lit 185, kO P 111) :: (nat_lit 187, kO P 112) :: (nat_lit 188, o188 P) :: (nat_lit 189, o189 P) :: (nat_lit 190, kO P 115) :: (nat_lit 192, kO P 116) :: (nat_lit 193, kO P 117) :: (nat_lit 195, kO P 118) :: (nat_lit 196, o196 P) :: (nat_lit 197, kO P 120) :: (nat_lit 199, kO P 121) :: (nat_lit 200, kO P 122) :: (nat_lit 202, kO P 123) :: (nat_lit 203, o203 P) :: (nat_lit 204, kO P 125) :: (nat_lit 206, kO P 126) :: (nat_lit 207, kO P 127) :: (nat_lit 209, kO P 128) :: (nat_lit 210, o210 P) :: (nat_lit 211, o211 P) :: (nat_lit 212, kO P 131) :: (nat_lit 214, kO P 132) :: (nat_lit 215, kO P 133) :: (nat_lit 217, kO P 134) :: (nat_lit 218, o218 P) :: (nat_lit 219, kO P 136) :: (nat_lit 221, kO P 137) :: (nat_lit 222, kO P 138) :: (nat_lit 224, kO P 139) :: (nat_lit 225, o225 P) :: (nat_lit 226, kO P 141) :: (nat_lit 228, kO P 142) :: (nat_lit 229, kO P 143) :: (nat_lit 231, kO P 144) :: (nat_lit 232, o232 P) :: (nat_lit 233, kO P 146) :: (nat_lit 235, kO P 147) :: (nat_lit 236, kO P 148) :: (nat_lit 238, kO P 149) :: (nat_lit 239, o239 P) :: (nat_lit 240, kO P 151) :: (nat_lit 241, o241 P) :: (nat_lit 242, o242 P) :: (nat_lit 243, o243 P) :: (nat_lit 244, o244 P) :: (nat_lit 247, kO P 156) :: (nat_lit 249, kO P 157) :: (nat_lit 250, kO P 158) :: (nat_lit 252, kO P 159) :: (nat_lit 253, o253 P) :: (nat_lit 254, o254 P) :: (nat_lit 261, kO P 162) :: (nat_lit 263, kO P 163) :: (nat_lit 264, kO P 164) :: (nat_lit 266, kO P 165) :: (nat_lit 267, o267 P) :: (nat_lit 268, kO P 167) :: (nat_lit 269, o269 P) :: (nat_lit 270, o270 P) :: (nat_lit 273, o273 P) :: (nat_lit 280, kO P 171) :: (nat_lit 282, kO P 172) :: (nat_lit 283, kO P 173) :: (nat_lit 285, kO P 174) :: (nat_lit 286, o286 P) :: (nat_lit 287, kO P 176) :: (nat_lit 289, kO P 177) :: (nat_lit 290, kO P 178) :: (nat_lit 292, kO P 179) :: (nat_lit 293, o293 P) :: (nat_lit 294, kO P 181) :: (nat_lit 296, kO P 182) :: (nat_lit 297, kO P 183) :: (nat_lit 299, kO P 184) :: (nat_lit 300, o300 P) :: (nat_lit 301, kO P 186) :: (nat_lit 302, o302 P) :: (nat_lit 303, o303 P) :: (nat_lit 306, kO P 189) :: (nat_lit 308, kO P 190) :: (nat_lit 309, kO P 191) :: (nat_lit 311, kO P 192) :: (nat_lit 312, o312 P) :: (nat_lit 313, kO P 194) :: (nat_lit 315, kO P 195) :: (nat_lit 316, kO P 196) :: (nat_lit 318, kO P 197) :: (nat_lit 319, o319 P) :: (nat_lit 320, kO P 199) :: (nat_lit 322, kO P 200) :: (nat_lit 323, kO P 201) :: (nat_lit 325, kO P 202) :: (nat_lit 326, o326 P) :: (nat_lit 327, kO P 204) :: (nat_lit 329, kO P 205) :: (nat_lit 330, kO P 206) :: (nat_lit 332, kO P 207) :: (nat_lit 333, o333 P) :: (nat_lit 334, kO P 209) :: (nat_lit 336, kO P 210) :: (nat_lit 337, kO P 211) :: (nat_lit 339, kO P 212) :: (nat_lit 340, o340 P) :: (nat_lit 341, kO P 214) :: (nat_lit 343, kO P 215) :: (nat_lit 344, kO P 216) :: (nat_lit 346, kO P 217) :: (nat_lit 347, o347 P) :: (nat_lit 348, kO P 219) :: (nat_lit 351, kO P 220) :: (nat_lit 352, o352 P) :: (nat_lit 353, kO P 222) :: (nat_lit 355, kO P 223) :: (nat_lit 356, kO P 224) :: (nat_lit 358, kO P 225) :: (nat_lit 359, o359 P) :: (nat_lit 360, kO P 227) :: (nat_lit 362, kO P 228) :: (nat_lit 363, kO P 229) :: (nat_lit 365, kO P 230) :: (nat_lit 366, o366 P) :: (nat_lit 367, kO P 232) :: (nat_lit 369, kO P 233) :: (nat_lit 370, kO P 234) :: (nat_lit 372, kO P 235) :: (nat_lit 373, o373 P) :: (nat_lit 374, kO P 237) :: (nat_lit 376, kO P 238) :: (nat_lit 377, kO P 239) :: (nat_lit 379, kO P 240) :: (nat_lit 380, o380 P) :: (nat_lit 381, kO P 242) :: (nat_lit 384, kO P 243) :: (nat_lit 385, o385 P) :: (nat_lit 386, kO P 245) :: (nat_lit 388, kO P 246) :: (nat_lit 389, kO P 247) :: (nat_lit 391, kO P 248) :: (nat_lit 392, o392 P) :: (nat_lit 393, kO P 250) :: (nat_lit 396, kO P 251) :: (nat_lit 397, o397 P) :: []
noncomputable def asW : List Addr := [nat_lit 2, nat_lit 3, nat_lit 15, nat_lit 17, nat_lit 18, nat_lit 20, nat_lit 21, nat_lit 29, nat_lit 31, nat_lit 32, nat_lit 34, nat_lit 35, nat_lit 36, nat_lit 37, nat_lit 39, nat_lit 40, nat_lit 42, nat_lit 43, nat_lit 44, nat_lit 46, nat_lit 47, nat_lit 49, nat_lit 50, nat_lit 51, nat_lit 53, nat_lit 54, nat_lit 56, nat_lit 57, nat_lit 58, nat_lit 59, nat_lit 60, nat_lit 61, nat_lit 62, nat_lit 65, nat_lit 68, nat_lit 73, nat_lit 74, nat_lit 75, nat_lit 76, nat_lit 78, nat_lit 79, nat_lit 81, nat_lit 82, nat_lit 83, nat_lit 85, nat_lit 86, nat_lit 88, nat_lit 89, nat_lit 90, nat_lit 91, nat_lit 92, nat_lit 93, nat_lit 94, nat_lit 96, nat_lit 97, nat_lit 99, nat_lit 100, nat_lit 101, nat_lit 103, nat_lit 104, nat_lit 106, nat_lit 107, nat_lit 108, nat_lit 110, nat_lit 111, nat_lit 113, nat_lit 114, nat_lit 115, nat_lit 117, nat_lit 118, nat_lit 120, nat_lit 121, nat_lit 122, nat_lit 123, nat_lit 124, nat_lit 126, nat_lit 127, nat_lit 129, nat_lit 130, nat_lit 132, nat_lit 134, nat_lit 135, nat_lit 136, nat_lit 139, nat_lit 141, nat_lit 142, nat_lit 144, nat_lit 145, nat_lit 153, nat_lit 154, nat_lit 156, nat_lit 157, nat_lit 159, nat_lit 160, nat_lit 161, nat_lit 163, nat_lit 164, nat_lit 166, nat_lit 167, nat_lit 168, nat_lit 170, nat_lit 171, nat_lit 173, nat_lit 174, nat_lit 175, nat_lit 177, nat_lit 178, nat_lit 180, nat_lit 181, nat_lit 182, nat_lit 184, nat_lit 185, nat_lit 187, nat_lit 188, nat_lit 189, nat_lit 190, nat_lit 192, nat_lit 193, nat_lit 195, nat_lit 196, nat_lit 197, nat_lit 199, nat_lit 200, nat_lit 202, nat_lit 203, nat_lit 204, nat_lit 206, nat_lit 207, nat_lit 209, nat_lit 210, nat_lit 211, nat_lit 212, nat_lit 214, nat_lit 215, nat_lit 217, nat_lit 218, nat_lit 219, nat_lit 221, nat_lit 222, nat_lit 224, nat_lit 225, nat_lit 226, nat_lit 228, nat_lit 229, nat_lit 231, nat_lit 232, nat_lit 233, nat_lit 235, nat_lit 236, nat_lit 238, nat_lit 239, nat_lit 240, nat_lit 241, nat_lit 242, nat_lit 243, nat_lit 244, nat_lit 247, nat_lit 249, nat_lit 250, nat_lit 252, nat_lit 253, nat_lit 254, nat_lit 261, nat_lit 263, nat_lit 264, nat_lit 266, nat_lit 267, nat_lit 268, nat_lit 269, nat_lit 270, nat_lit 273, nat_lit 280, nat_lit 282, nat_lit 283, nat_lit 285, nat_lit 286, nat_lit 287, nat_lit 289, nat_lit 290, nat_lit 292, nat_lit 293, nat_lit 294, nat_lit 296, nat_lit 297, nat_lit 299, nat_lit 300, nat_lit 301, nat_lit 302, nat_lit 303, nat_lit 306, nat_lit 308, nat_lit 309, nat_lit 311, nat_lit 312, nat_lit 313, nat_lit 315, nat_lit 316, nat_lit 318, nat_lit 319, nat_lit 320, nat_lit 322, nat_lit 323, nat_lit 325, nat_lit 326, nat_lit 327, nat_lit 329, nat_lit 330, nat_lit 332, nat_lit 333, nat_lit 334, nat_lit 336, nat_lit 337, nat_lit 339, nat_lit 340, nat_lit 341, nat_lit 343, nat_lit 344, nat_lit 346, nat_lit 347, nat_lit 348, nat_lit 351, nat_lit 352, nat_lit 353, nat_lit 355, nat_lit 356, nat_lit 358, nat_lit 359, nat_lit 360, nat_lit 362, nat_lit 363, nat_lit 365, nat_lit 366, nat_lit 367, nat_lit 369, nat_lit 370, nat_lit 372, nat_lit 373, nat_lit 374, nat_lit 376, nat_lit 377, nat_lit 379, nat_lit 380, nat_lit 381, nat_lit 384, nat_lit 385, nat_lit 386, nat_lit 388, nat_lit 389, nat_lit 391, nat_lit 392, nat_lit 393, nat_lit 396, nat_lit 397]
theorem asW_eq : ∀ P, asW = (KW P).map (·.1) := fun _ => by kernel_rfl
theorem KL_eq : ∀ P, KLd pw P = KW P := fun _ => by kernel_rfl
noncomputable def qwp (p : Program) : Program := { p with main := { p.main with body := [nth p.main.body 29] } }
noncomputable def qw : Program := qwp pw
noncomputable def looseN : List Str := ["_wall", "_tuplegetter", "Match", "_calculate_ratio", "SequenceMatcher", "_plain_name", "ABCMeta", "_ABCLike", "_abc_plain_meta", "fspath", "_check_arg_types", "_get_sep", "basename", "dirname", "commonpath", "_law_rows", "_law_text", "_law_up", "_law_same", "_law_window", "_law_blocks"]
noncomputable def XtW (_ : Shared) : Bool := true
noncomputable def obsW (s : Shared) : List (Option Obj) := asW.map s.heap.get?
noncomputable def valWp (p : Program) (K : Program → Params → List (Nat × Obj)) (w : World) : List (Option Obj) := (K p w.params).map fun p => some p.2
noncomputable def valW (w : World) : List (Option Obj) := valWp pw KLd w
noncomputable def runTop (p : Program) (w : World) (os : OsState) := runS denF p w 11 (some (.ref 6)) (finF p (qwp p) looseN XtW obsW w) 3300 (s0 w os) (topStub p)
noncomputable def wantTop (p : Program) (K : Program → Params → List (Nat × Obj)) (w : World) (_ : OsState) := some (openGood (qwp p) looseN, valWp p K w)
noncomputable def lawP (p : Program) : OpenLaw := { prog := p, name := (Str.ofString "law"), about := [(Str.ofString "SequenceMatcher"), (Str.ofString "get_matching_blocks")], foot := 7, most := some 63, bound := none, writes := false }
noncomputable def sayTop (p : Program) : Bool := OpenLaw.wellSaid (lawP p)
theorem sayTop_self : sayTop = sayTop := rfl
theorem runTop_self : runTop = runTop := rfl
theorem wantTop_self : wantTop = wantTop := rfl
theorem plain_boot : (fun (_ : Params → Obj) => decide (Str.ofString "a" = Str.ofString "a")) boot_o_0 = true := by k_qdec
end Pd88.Internal
lay_quick Pd88.Internal.runTop
lay_quick Pd88.Internal.wantTop
lay_quick Pd88.Internal.sayTop
name_quick runQ88 for Pd88.Internal.runTop by Pd88.Internal.runTop_self
name_quick wantQ88 for Pd88.Internal.wantTop by Pd88.Internal.wantTop_self
name_quick sayQ88 for Pd88.Internal.sayTop by Pd88.Internal.sayTop_self
namespace Pd88.Internal
theorem runQ_ok : PySem.W.Fast.runQ88 pwF = PySem.W.Fast.wantQ88 pwF KLd := by kernel_rfl
theorem runF_ok : runTop pwF = wantTop pwF KLd := (congrFun PySem.W.Fast.runQ88_eq pwF).trans (runQ_ok.trans (congrFun (congrFun PySem.W.Fast.wantQ88_eq pwF) KLd).symm)
theorem run_ok : runTop pw = wantTop pw KLd := pwF_eq ▸ runF_ok
theorem sayQ_ok : PySem.W.Fast.sayQ88 pwF = true := by kernel_rfl
theorem said_ok : OpenLaw.wellSaid PySem.Challenge.rw_pd0088_01 = true := by
 have h : sayTop pw = true := by rw [← pwF_eq, PySem.W.Fast.sayQ88_eq]; exact sayQ_ok
 exact h
end Pd88.Internal
end
section
open PySem PySem.W PyProof.Rows
set_option maxRecDepth 100000
set_option maxHeartbeats 0
namespace Pd88.Internal
theorem boot_size (w : World) : ((boot_heap w.params).isNs mainGlobals, (boot_heap w.params).objs.size, (boot_heap w.params).nsMap mainGlobals "__annotations__") = (true, 11, some (.ref 6)) := by kernel_rfl
theorem open_plain : opening pw = plainProg pw.main.scope.names := by kernel_rfl
theorem left : LeftO pw qw looseN XtW obsW valW 3300 :=
 left_of_run (boot_open open_plain (by kernel_rfl) (fun s => by kernel_rfl)) boot_size (fun w os => congrFun (congrFun run_ok w) os)
theorem inK (w : World) (s : Shared) (e : obsW s = valW w) : (KW w.params).In s.heap := Frag.in_of (asW_eq w.params) (by
 have e' : asW.map s.heap.get? = (KLd pw w.params).map fun p => some p.2 := e
 rw [KL_eq] at e'
 exact e')
end Pd88.Internal
end
section
open PySem PySem.W PyProof.Rows
set_option maxRecDepth 100000
set_option maxHeartbeats 0
namespace Pd88.Internal
noncomputable def LawWalk : Prop := ∀ (w : World) (s : Shared) (a : Addr) (vs : List Value) (ns : List Int), (KW w.params).In s.heap → s.heap.IsList a vs.toArray → IntsAre vs ns → ns.length ≤ 63 → (∃ mean mg mb, Top qw looseN mean mg mb s.heap) → TabsAt [(396, 394)] s.heap → s.gens = #[] →
 wpAny (model pw w) callerA (call (.ref 397) [.ref a]) (fun v s' => v = .bool true ∧ (∀ b o, b ≠ 394 → s.heap.get? b = some o → s'.heap.get? b = some o) ∧ (∃ ps, s'.heap.get? 394 = some (tabObj ps)) ∧ s'.os = s.os ∧ s'.gens = #[]) (fun _ _ => False) s
theorem oldK_of {h h' : Heap} (hT : TabsAt [(396, 394)] h) (k : ∀ b o, b ≠ 394 → h.get? b = some o → h'.get? b = some o) (g : ∃ ps, h'.get? 394 = some (tabObj ps)) : OldK h h' := by
 obtain ⟨C, e0⟩ := hT (396, 394) (.head _)
 obtain ⟨ps, hP⟩ := g
 refine ⟨fun b o e => ?_, fun b o e => ?_⟩
 ·by_cases hb : b = 394
  ·subst hb
   dsimp only at e0
   rw [e0] at e
   cases e
   exact .inr (.inl ⟨(C.tab e0).isCodeTable, rfl, #[], ps, rfl, by rw [Array.empty_append]; exact hP⟩)
  ·exact .inl (k b o hb e)
 ·by_cases hb : b = 394
  ·subst hb; exact ⟨_, hP⟩
  ·exact ⟨o, k b o hb e⟩
theorem tab_in (P : Params) : tabIn (KW P) (Str.ofString "law") = some (396, 394) := by kernel_rfl
theorem rec_in : ((recsOf qw).find? (fun e => e.name == Str.ofString "law")).isSome = true := by kernel_rfl
theorem law_at {P : Params} {h : Heap} {mg : Str → Option Value} {fa : Addr} (X : (KW P).In h) (N : h.Ns mainGlobals mg) (e : mg (Str.ofString "law") = some (.ref fa)) : fa = 397 := by
 have q := mg_of X N (n := Str.ofString "law") (v := .ref 397) (by kernel_rfl)
 rw [q] at e
 cases e
 rfl
theorem holds_of_walk (walk : LawWalk) : PySem.Challenge.rw_pd0088_01.Holds := by
 w_on
 refine holds_law said_ok fun said => ?_
 refine holds_open (q := qw) (loose := looseN) (Xt := XtW) (XP := fun _ _ => True) (Yf := obsW) (Ya := valW) (YP := fun w h => (KW w.params).In h) (N := 3300) left inK (fun w h h' x k => Frag.In.keeps x k) (fun _ _ => trivial) (fun _ _ _ _ _ => trivial) (by rfl) (by rfl) (by rfl) (fun _ _ => recFacts_of (R := []) rfl) (by rfl) (by first | assumption | decide +kernel) (by decide +kernel) ⟨rfl, rfl, rfl, rfl, rfl, by decide +kernel⟩ ?hw ?hc
 case hw => w_witness2
 case hc =>
  intro w s₀ s₁ mg mb G Y fa o pm cd doc dV kV ho hd hcd hD hmg hg args vals as hpre hlay hrd hwl hlo
  clear hd hcd hD
  refine Ground.open G ?_
  intro T B D TE TW
  wrow_args hpre hlay hrd hwl hlo
  have hfa : fa = 397 := law_at Y T.g hmg
  subst hfa
  clear hmg
  obtain ⟨dr, hdr⟩ := Option.isSome_iff_exists.mp rec_in
  have hTab : TabsAt [(396, 394)] s₁.heap := fun q hq => by
   rw [List.mem_singleton.mp hq]
   exact tab_of T Y hdr (tab_in _)
  refine wpAny_mono (walk w s₁ _ _ _ Y (by assumption) (by assumption) (by omega) ⟨_, _, _, T⟩ hTab hg) ?_ (fun _ _ x => x.elim)
  rintro v s' ⟨rfl, hk, hgr, hos, hgs⟩
  have hold := oldK_of hTab hk hgr
  exact ⟨.inl ⟨_, .bool true, [], rfl, raisesW_false (by wrow_none_raised), .bool true, by wrow_post, unshared_nil⟩, hold, hos, .of_eq hgs⟩
end Pd88.Internal
end
section
open PySem PySem.W PyProof.Rows PySem.Calls
set_option maxRecDepth 100000
set_option maxHeartbeats 0
namespace Pd88.Internal
noncomputable def Keeps (h h' : Heap) : Prop := ∀ b o, h.get? b = some o → h'.get? b = some o
structure Cx (w : World) (h : Heap) : Prop where
 X : (KW w.params).In h
 T : ∃ mg mb, TopRead qw looseN mg mb h
structure Room (A : Around) (n : Nat) : Prop where
 depth : A.depth + n ≤ 900
 units : A.units + 8 * n ≤ 9000
 handled : A.handled = none
theorem fillK : PySem.Challenge.rw_pd0088_01 = PySem.Challenge.rw_pd0088_01 → (∀ P, KW P = KW P) := by
 k_fill
 intros; rfl
noncomputable def fn (a : Nat) (P : Params) : Option FuncData := match (KW P).lookup a with
 | some ⟨_, _, .func f, _⟩ => some f
 | _ => none
theorem Keeps.refl (h : Heap) : Keeps h h := fun _ _ e => e
theorem Keeps.trans {a b c : Heap} (x : Keeps a b) (y : Keeps b c) : Keeps a c := fun _ _ e => y _ _ (x _ _ e)
theorem Cx.keeps {w : World} {h h' : Heap} (C : Cx w h) (k : Keeps h h') : Cx w h' := ⟨C.X.keeps k, let ⟨mg, mb, T⟩ := C.T; ⟨mg, mb, T.keeps k⟩⟩
theorem fr_keeps {h₀ h h' : Heap} {L : Addr} {m : Str → Option Value} (F : Fr h₀ L h m) (k : Keeps h h') : Fr h₀ L h' m := ⟨F.ns.keeps k, fun b o e => k _ _ (F.keep b o e), F.above⟩
theorem news_keeps {h₀ h h' : Heap} {L : Addr} {news : List (Addr × Obj)} (N : News h₀ L h news) (k : Keeps h h') : News h₀ L h' news := fun p hp => ⟨k _ _ (N p hp).1, (N p hp).2.1, (N p hp).2.2⟩
theorem Room.le {A : Around} {n m : Nat} (R : Room A n) (h : m ≤ n) : Room A m := ⟨Nat.le_trans (Nat.add_le_add_left h _) R.depth, Nat.le_trans (Nat.add_le_add_left (Nat.mul_le_mul_left 8 h) _) R.units, R.handled⟩
theorem Room.deeper {A : Around} {n : Nat} {env : Env} (R : Room A (n + 1)) : Room (A.deeper env) n := ⟨by have := R.depth; show A.depth + 1 + n ≤ 900; lia, by have := R.units; show A.units + 3 + 8 * n ≤ 9000; lia, R.handled⟩
theorem Room.in1 {A : Around} {n : Nat} (R : Room A (n + 1)) : Room A.in1 n := ⟨Nat.le_trans (Nat.add_le_add_left (Nat.le_succ n) _) R.depth, by have := R.units; show A.units + 1 + 8 * n ≤ 9000; lia, R.handled⟩
theorem Room.unitsLt {A : Around} {n : Nat} (R : Room A n) : A.units < cLine := Nat.lt_of_le_of_lt (Nat.le_trans (Nat.le_add_right _ _) R.units) (by decide)
theorem Room.depthLt {A : Around} {n : Nat} (R : Room A n) : A.depth < recursionLimit := Nat.lt_of_le_of_lt (Nat.le_trans (Nat.le_add_right _ _) R.depth) (by decide)
theorem enter (binds : List (Str × Value)) {w : World} {A : Around} {R : Result → Shared → Prop} {s : Shared} {name qual : Str} {params : Arguments} {body : List Stmt} {scope : Scope}
  {dV kV doc pm cdv ct oc : Value} {an od : Option Addr} {osl : Array (Option Value)} {f : Addr} {args : Args} {n : Nat}
  (C : Cx w s.heap) (ho : (KW w.params).lookup f = some ⟨oc, od, .func (fnOf name qual params body scope dV kV doc pm an cdv ct), osl⟩) (hcd : codeIn (KW w.params) cdv qual = true) (hroom : Room A (n + 1))
  (hbind : BindsTo s (fnOf name qual params body scope dV kV doc pm an cdv ct) args binds) (hloc : ∀ y ∈ binds, scope.names.lookup y.1 = some .local)
  (h : ∀ h₁, Fr s.heap s.heap.objs.size h₁ (fun x => binds.reverse.lookup x) → News s.heap s.heap.objs.size h₁ [] → Room (A.deeper (envOf qual scope s.heap.objs.size f cdv)) n →
   wpAny (model pw w) (A.deeper (envOf qual scope s.heap.objs.size f cdv)) (execs body (envOf qual scope s.heap.objs.size f cdv))
    (fun fl s' => R (.ok (.ret (match fl with | .ret v => v | _ => .none))) s') (fun _ _ => False)
    { s with heap := h₁, toks := s.toks + binds.length })
  (hco : scope.isCoroutine = false) (hgen : scope.isGenerator = false) (hk : scope.kind = .function)
  (hcell : ∀ x ∈ scope.names, x.2 ≠ .cell) : codeAny (model pw w) A (.call (.ref f) args) R s := by
 obtain ⟨mg, mb, T⟩ := C.T
 refine codeAny_call_def (fd := fnOf name qual params body scope dV kV doc pm an cdv ct) (body := body) (binds := binds) hroom.depthLt (C.X _ _ ho) rfl T.nolimit (codeRec_of C.X hcd) rfl hbind hcell hloc (fun h₁ hns hk₁ => ?_) hco hgen hk
 exact wpAny_mono (h h₁ ⟨hns, hk₁, Nat.le_refl _⟩ News.nil hroom.deeper) (fun _ _ x => x) (fun _ _ x => x.elim)
inductive Stop : Prop → Prop
 | a {M A l E s Q} : Stop (wpAny M A (pyIter (Value.ref l)) E s Q)
 | b {M A x y z t e E s Q} : Stop (wpAny M A (exec (Stmt.While x y z t) e) E s Q)
 | c {M A x y z t u e E s Q} : Stop (wpAny M A (exec (Stmt.For x y z t u) e) E s Q)
 | d {M A o x y z t u e E s Q} : Stop (wpAny M A (exec (Stmt.Assign [o] (Expr.ListComp x y z t) u) e) E s Q)
 | e {M A x y z t e E s Q} : Stop (wpAny M A (eval (Expr.SetComp x y z t) e) E s Q)
 | f {M A x y z t e E s Q} : Stop (wpAny M A (eval (Expr.ListComp x y z t) e) E s Q)
 | g {a b c d e f g h i j k l m n} : Stop (LCg.CompEnd a b c d e f g h i j k l m n)
 | h {a b c d e f g h i j k l m n} : Stop (LCg.CompSrc a b c d e f g h i j k l m n)
 | i {a b c d e f g h i j k l m n o} : Stop (LCt.CompSrcT a b c d e f g h i j k l m n o)
 | j {M A x E s Q} : Stop (wpAny M A (call (Value.builtin "min") [x]) E s Q)
 | k {M A x E s Q} : Stop (wpAny M A (call (Value.builtin "max") [x]) E s Q)
theorem stop_at {P : Prop} (_ : Stop P) (k : P) : P := k
end Pd88.Internal
end
namespace Pd88.Internal
open PySem PySem.W PyProof.Rows PySem.Calls
theorem fillK9 : PySem.Challenge.rw_pd0088_01 = PySem.Challenge.rw_pd0088_01 → (∀ P, KW P = KW P) := by
 k_fill
 intros; rfl
local macro_rules | `(tactic| walk_at "o") => `(tactic| first | with_reducible assumption | lia | omega)
local macro_rules | `(tactic| walk_at "q") => `(tactic| first | with_reducible refine wpAny_bind ?_ | with_reducible refine wpAny_pure ?_ | with_reducible refine wpAny_of_eq (by assumption) ?_ | with_reducible refine wpAny_typeOf (by assumption) ?_ | with_reducible refine wpAny_call ?_ | with_reducible refine wpAny_attempt ?_ | wp_delta | wp_step)
local macro_rules | `(tactic| walk_at "a") => `(tactic| with_reducible assumption)
local macro_rules | `(tactic| k_units) => `(tactic| exact Room.unitsLt (by walk_at "a"))
local macro_rules | `(tactic| walk_at "my cr") => `(tactic| ((case zC => walk_at "my cx"); (case zR => walk_at "my room")))
local macro_rules | `(tactic| walk_at "my hs") => `(tactic| ((case zhs => with_unfolding_all rfl); (case zhg => (intro _; with_unfolding_all rfl))))
local macro_rules | `(tactic| walk_at "my nm") => `(tactic| ((case zN => walk_at "a"); (case zm => k_mem)))
local macro_rules | `(tactic| walk_at "my room") => `(tactic| exact Room.le (by walk_at "a") (by decide))
local macro_rules | `(tactic| walk_at "my cx") => `(tactic| first | assumption | exact Cx.keeps (by assumption) (Fr.keep (by assumption)))
local macro_rules | `(tactic| walk_at "my binds") => `(tactic| first | exact BindsTo.of_eq rfl | exact binds_K (by k_in) rfl (by k_is) rfl rfl rfl)
local macro_rules | `(tactic| walk_at "my news") => `(tactic| exact News.get (by walk_at "a") (by k_mem))
local macro_rules | `(tactic| walk_at "my lift") => `(tactic| (intros; (try dsimp only at *); (rename Keeps _ _ => zK1); (have zF1 := fr_keeps (by assumption) zK1); (have zN1 := news_keeps (by assumption) zK1); clear zK1; k_sweep))
local macro_rules | `(tactic| walk_at "my ret") => `(tactic| (dsimp only; (apply_assumption); exact (Fr.keep (by assumption))))
local macro_rules | `(tactic| walk_at "my stop") => `(tactic| with_reducible refine stop_at (by constructor) ?_)
local macro_rules | `(tactic| walk_at "my step1") => `(tactic| first | (k_unfold; (try dsimp only)) | (k_unmd; k_unfold; (try dsimp only)) | ((fail_if_success walk_at "my stop"); first | (walk1; (try dsimp only)) | (dsimp only; (fail_if_success walk_at "my stop"); walk1; (try dsimp only))))
local macro_rules | `(tactic| walk_at "my steps") => `(tactic| repeat' walk_at "my step1")
local macro_rules | `(tactic| walk_at "my sub") => `(tactic| first | exact List.forall_mem_nil _ | (refine' List.forall_mem_cons.mpr ⟨?za, ?zb⟩; (case za => k_mem); (case zb => walk_at "my sub")))
local macro_rules | `(tactic| lcg_src) => `(tactic| exact ⟨_, by k_mem⟩)
local macro_rules | `(tactic| k_ne) => `(tactic| (refine neN ?_; (try dsimp only); first | walk_at "a" | (apply Ne.symm; walk_at "a") | lia | omega))

section
structure Win where
 alo : Nat
 ahi : Nat
 blo : Nat
 bhi : Nat
theorem hil {α : Type} (a : Nonempty α) (P : α → Prop) : ∃ x, P x → ∀ y, P y := by
 by_cases h : ∀ y, P y
 ·exact ⟨Classical.choice a, fun _ => h⟩
 ·exact (Classical.not_forall.mp h).imp fun x n p => absurd p n
structure DV where
 T : Type
 v : T
noncomputable def W0 : World := ⟨fun _ _ => 0, { strHash := fun _ => 0, shareClass := fun _ => 0, mergeTok := id, idOf := fun _ => 0, idOfShared := fun _ _ => 0, followText := fun _ => true, idOfImm := fun _ => 0 }⟩
noncomputable def LL : List DV := [⟨Nat, 0⟩, ⟨World, W0⟩, ⟨Heap, Classical.ofNonempty⟩, ⟨Obj, Classical.ofNonempty⟩, ⟨List Value, Classical.ofNonempty⟩, ⟨Shared, {}⟩, ⟨Str → Option Value, Classical.ofNonempty⟩, ⟨List (Addr × Obj), Classical.ofNonempty⟩, ⟨Int, Classical.ofNonempty⟩, ⟨Value → Shared → Prop, Classical.ofNonempty⟩, ⟨Option (List Env), Classical.ofNonempty⟩, ⟨Option (List Code), Classical.ofNonempty⟩, ⟨Str, Classical.ofNonempty⟩, ⟨List Str, Classical.ofNonempty⟩, ⟨Program, pw⟩, ⟨Around, {}⟩, ⟨Env, Classical.ofNonempty⟩, ⟨Expr, Classical.ofNonempty⟩, ⟨List Stmt, Classical.ofNonempty⟩, ⟨List Addr, Classical.ofNonempty⟩, ⟨Nat → Value → Prop, Classical.ofNonempty⟩, ⟨Nat → Heap → Prop, Classical.ofNonempty⟩, ⟨Flow → Shared → Prop, Classical.ofNonempty⟩, ⟨Nat → (Str → Option Value) → List (Addr × Obj) → Prop, Classical.ofNonempty⟩, ⟨Pos, Classical.ofNonempty⟩, ⟨Scope, Classical.ofNonempty⟩, ⟨List (Str × Addr), Classical.ofNonempty⟩, ⟨List (Addr × Obj) → Prop, Classical.ofNonempty⟩, ⟨Value → Addr → Result → Shared → Prop, Classical.ofNonempty⟩, ⟨Array Value, Classical.ofNonempty⟩, ⟨List (Str × Tok), Classical.ofNonempty⟩, ⟨List (Int × Int × Int), Classical.ofNonempty⟩, ⟨Value, Classical.ofNonempty⟩, ⟨Array GenState, Classical.ofNonempty⟩, ⟨Drawn, {}⟩, ⟨OsState, {}⟩, ⟨List (Int × Value), Classical.ofNonempty⟩, ⟨List (Str × Addr × List Value × Nat), Classical.ofNonempty⟩, ⟨Bool, Classical.ofNonempty⟩, ⟨List DictEntry, Classical.ofNonempty⟩, ⟨List Win, Classical.ofNonempty⟩, ⟨List Int, Classical.ofNonempty⟩, ⟨Int × Int × Int → Int × Int × Int, Classical.ofNonempty⟩, ⟨Result → Shared → Prop, Classical.ofNonempty⟩, ⟨ExcName → Option Value, Classical.ofNonempty⟩]
noncomputable def TT (k : Nat) : Type := (LL.getD k ⟨Unit, ()⟩).T
abbrev YY := (k : Nat) → Nat → TT k
noncomputable def dY : YY := fun k _ => (LL.getD k ⟨Unit, ()⟩).v
noncomputable def pickY (T : YY → Prop) : YY := Classical.choose (hil ⟨dY⟩ T)
theorem pickY_spec (T : YY → Prop) : T (pickY T) → ∀ y, T y := Classical.choose_spec (hil ⟨dY⟩ T)
structure DU where
 k : Nat
 v : TT k
noncomputable def putY (l : List DU) : YY := fun k i => match l[i]? with
 | some u => if h : u.k = k then h ▸ u.v else dY k i
 | none => dY k i
end
section
theorem nM {n i : Nat} (h : i < n) : n + 1 - (i + 1) < n + 1 - i := Nat.sub_lt_sub_left (Nat.lt_succ_of_lt h) (Nat.lt_succ_self i)
theorem nN {n i k : Nat} (h : n - i = k + 1) : n - (i + 1) = k := by rw [Nat.sub_add_eq, h]; rfl
theorem nZ {n i : Nat} (h : n - i = 0) (h2 : i ≤ n) : i = n := Nat.le_antisymm h2 (Nat.le_of_sub_eq_zero h)
theorem nQ {n i k : Nat} (h : n - i = k + 1) : i < n := Nat.sub_pos_iff_lt.mp (by rw [h]; exact Nat.succ_pos k)
section
variable {prog : Program} {w : World} {A : Around} {E : Value → Shared → Prop} {s : Shared}
theorem args_issub_nested (a b c : Value) : argsOk "issubclass.nested" ⟨[a, b, c], []⟩ := by unfold argsOk; kernel_rfl
theorem issub_nested_str {k : Value} {dep : Int} {tk : Tok} {Q : Fin → Shared → Prop} (hk : k = .int dep tk) (hq : Q (.done (.ret (.bool true))) s) :
  wpAny (model prog w) A (Builtin.«issubclass.nested» ⟨[.type "str", .type "str", k], []⟩) Q E s := by
 subst hk
 have hm : typeOf (.type "str") = pure (.type "type") := by kernel_rfl
 have hself : isSubtype (.type "str") (.type "str") = pure true := by kernel_rfl
 repeat (any_goals (first | assumption | (rw [if_pos hm]) | (rw [hself]) | wp_step))
theorem issub_nested_tuple {tp : Addr} {tk : Tok} {cs rest : List Value} {Q : Fin → Shared → Prop}
  (htp : s.heap.get? tp = some { cls := .type "tuple", data := .seq cs.toArray }) (hc : cs = .type "str" :: rest)
  (hq : Q (.done (.ret (.bool true))) s) : wpAny (model prog w) A (Builtin.«issubclass.nested» ⟨[.type "str", .ref tp, .int 0 tk], []⟩) Q E s := by
 obtain ⟨h, g, d, t, os⟩ := s
 have hT2 : (⟨h, g, d, t, os⟩ : Shared).TypeIs (.ref tp) "tuple" := ⟨_, htp, rfl⟩
 have f1 := F.isi_sub_tuple
 repeat (any_goals (first | assumption | wp_step))
 refine wpAny_arrayLoop ?_
 simp only [Option.getD_some]
 rw [hc, List.forIn_cons]
 refine wpAny_bind (wpAny_bind (call_function_meets (S := fun _ R s => R (.ok (.ret (.bool true))) s) (by decide +kernel) (by decide +kernel) F.entry_issubclass_nested (args_issub_nested _ _ _) (fun _ _ _ _ _ hs => issub_nested_str rfl hs) ?_))
 show wpAny _ _ (truthy (.bool true) >>= _) _ _ _
 refine wpAny_bind (m := truthy (.bool true)) (wpAny_pure ?_)
 exact wpAny_bind (wpAny_pure (wpAny_pure (wpAny_pure (wpAny_pure hq))))
theorem issub_str {tp : Addr} {Q : Value → Shared → Prop}
  (htp : s.heap.get? tp = some { cls := .type "tuple", data := .seq #[.type "str", .type "bytes"] }) (hq : Q (.bool true) s) :
  wpAny (model prog w) A (call (.builtin "issubclass") [.type "str", .ref tp]) Q E s :=
 call_issubclass (S := fun _ R s => (s.heap.get? tp = some { cls := .type "tuple", data := .seq #[.type "str", .type "bytes"] }) ∧ R (.ok (.ret (.bool true))) s) (fun _ _ _ _ _ hs => issubclass_outer (issub_nested_tuple (cs := [.type "str", .type "bytes"]) hs.1 rfl hs.2)) ⟨htp, hq⟩
end
end
section
section
noncomputable def slashS : Str := Str.ofString "/"
theorem slash_eq : Str.ofString "/" = ⟨#[47]⟩ := by decide +kernel
theorem cut_eq {l1 l2 r1 r2 : List Nat} (h1 : 47 ∉ l1) (h2 : 47 ∉ l2) (e : l1 ++ 47 :: r1 = l2 ++ 47 :: r2) : l1 = l2 ∧ r1 = r2 := by
 induction l1 generalizing l2 with
 | nil =>
  cases l2 with
  | nil => simp at e; exact ⟨rfl, e⟩
  | cons b l2 => simp at e; exact absurd e.1 (fun q => h2 (by rw [q]; exact .head _))
 | cons a l1 ih =>
  cases l2 with
  | nil => simp at e; exact absurd e.1.symm (fun q => h1 (by rw [← q]; exact .head _))
  | cons b l2 =>
   simp only [List.cons_append, List.cons.injEq] at e
   obtain ⟨rfl, e⟩ := e
   obtain ⟨x, y⟩ := ih (fun q => h1 (.tail _ q)) (fun q => h2 (.tail _ q)) e
   exact ⟨by rw [x], y⟩
theorem str_ext {x y : Str} (h : x.cps.toList = y.cps.toList) : x = y := by
 obtain ⟨⟨a⟩⟩ := x; obtain ⟨⟨b⟩⟩ := y
 simp only at h; subst h; rfl
theorem app_listZ (x y : Str) : (x ++ y).cps.toList = x.cps.toList ++ y.cps.toList := by
 show (x.cps ++ y.cps).toList = _
 simp
theorem join_cons (x y : Str) (r : List Str) : (Str.join ⟨#[47]⟩ (x :: y :: r)).cps.toList = x.cps.toList ++ 47 :: (Str.join ⟨#[47]⟩ (y :: r)).cps.toList := by
 show (x ++ ⟨#[47]⟩ ++ Str.join ⟨#[47]⟩ (y :: r)).cps.toList = _
 rw [app_listZ, app_listZ]; simp
theorem join_inj : ∀ ps qs : List Str, ps ≠ [] → qs ≠ [] → (∀ p ∈ ps, 47 ∉ p.cps.toList) → (∀ q ∈ qs, 47 ∉ q.cps.toList) → Str.join ⟨#[47]⟩ ps = Str.join ⟨#[47]⟩ qs → ps = qs
 | [], _, h, _, _, _, _ => absurd rfl h
 | _, [], _, h, _, _, _ => absurd rfl h
 | [x], [y], _, _, _, _, e => by have : x = y := e; rw [this]
 | [x], y :: z :: r, _, _, hp, _, e => by
  have e2 := congrArg (fun s : Str => s.cps.toList) e
  simp only [join_cons] at e2
  have : (47 : Nat) ∈ x.cps.toList := by
   show 47 ∈ (Str.join ⟨#[47]⟩ [x]).cps.toList
   rw [e2]; simp
  exact absurd this (hp x (.head _))
 | x :: z :: r, [y], _, _, _, hq, e => by
  have e2 := congrArg (fun s : Str => s.cps.toList) e
  simp only [join_cons] at e2
  have : (47 : Nat) ∈ y.cps.toList := by
   show 47 ∈ (Str.join ⟨#[47]⟩ [y]).cps.toList
   rw [← e2]; simp
  exact absurd this (hq y (.head _))
 | x :: x2 :: r, y :: y2 :: t, _, _, hp, hq, e => by
  have e2 := congrArg (fun s : Str => s.cps.toList) e
  simp only [join_cons] at e2
  obtain ⟨a, b⟩ := cut_eq (hp x (.head _)) (hq y (.head _)) e2
  have ih := join_inj (x2 :: r) (y2 :: t) (by simp) (by simp) (fun p h => hp p (.tail _ h)) (fun p h => hq p (.tail _ h)) (str_ext b)
  rw [str_ext a, ih]
theorem split_ne (x : Str) (c : Nat) : Txt.split x ⟨#[c]⟩ ≠ [] := by
 unfold Txt.split
 split
 ·simp
 ·split
  ·simp
  ·rw [StrLaws.partsBetween_eq]
   obtain ⟨p, r, e⟩ := StrLaws.partsFrom_ne x (⟨#[c]⟩ : Str).length 0 (Builtin.Str.occurrences x ⟨#[c]⟩ 0 x.length (x.length + 1))
   rw [e]; simp
theorem split_join (ps : List Str) (h : ps ≠ []) (hp : ∀ p ∈ ps, 47 ∉ p.cps.toList) : Txt.split (Str.join ⟨#[47]⟩ ps) ⟨#[47]⟩ = ps :=
 join_inj _ _ (split_ne _ _) h (StrLaws.split_free _ _) hp (StrLaws.join_split _ _)
end
noncomputable def nmA : Str := Str.ofString "a"
noncomputable def nmB : Str := Str.ofString "b"
noncomputable def nmC : Str := Str.ofString "ab"
noncomputable def isNice (x : Str) : Prop := x = nmA ∨ x = nmB ∨ x = nmC
theorem nice_free {x : Str} (h : isNice x) : 47 ∉ x.cps.toList := by
 rcases h with rfl | rfl | rfl <;> decide +kernel
theorem nice_ne {x : Str} (h : isNice x) : (x != Str.ofString "") = true := by
 rcases h with rfl | rfl | rfl <;> decide +kernel
theorem empty_free : 47 ∉ (Str.ofString "").cps.toList := by decide +kernel
theorem slash_join {ps : List Str} (h : ps ≠ []) : Str.ofString "/" ++ Str.join ⟨#[47]⟩ ps = Str.join ⟨#[47]⟩ (Str.ofString "" :: ps) := by
 cases ps with
 | nil => exact absurd rfl h
 | cons p ps =>
  apply str_ext
  rw [join_cons, app_listZ]
  have e1 : (Str.ofString "/").cps.toList = [47] := by decide +kernel
  have e2 : (Str.ofString "").cps.toList = [] := by decide +kernel
  rw [e1, e2]; rfl
theorem front_split {Z : List Str} (h : ∀ x ∈ Z, isNice x) : ((Txt.split (Str.ofString "/" ++ Txt.join (Str.ofString "/") Z) (Str.ofString "/")).filter fun c => c != Str.ofString "") = Z := by
 unfold Txt.join
 rw [StrLaws.glued_eq_join, slash_eq]
 cases Z with
 | nil =>
  have e : (⟨#[47]⟩ : Str) ++ Str.join ⟨#[47]⟩ [] = Str.join ⟨#[47]⟩ [Str.ofString "", Str.ofString ""] := by decide +kernel
  rw [e, split_join _ (by simp) (by intro p hp; simp at hp; rw [hp]; exact empty_free)]
  decide +kernel
 | cons z Z =>
  have e := slash_join (ps := z :: Z) (by simp)
  rw [slash_eq] at e
  rw [e, split_join _ (by simp) (by
   intro p hp
   rcases List.mem_cons.mp hp with rfl | hp
   ·exact empty_free
   ·exact nice_free (h p hp))]
  rw [List.filter_cons, if_neg (by decide +kernel)]
  exact List.filter_eq_self.mpr fun x hx => nice_ne (h x hx)
end
section
noncomputable def kasRun (n : Nat) (c : Nat → Nat → Bool) {α : Type} : KasT α → Option α
 | .ret a => some a
 | .ask i j k => if i < n ∧ j < n ∧ i ≠ j then kasRun n c (k (c i j)) else none
theorem kasRun_wp {n : Nat} {c : Nat → Nat → Bool} {α : Type} {cmp : Nat → Nat → (Bool → Shared → Prop) → Shared → Prop} {Q : α → Shared → Prop} {s : Shared} (hc : ∀ i j (C : Bool → Shared → Prop), i < n → j < n → i ≠ j → C (c i j) s → cmp i j C s) :
  ∀ (t : KasT α) {a : α}, kasRun n c t = some a → Q a s → t.kasWp cmp Q s
 | .ret b, a, e, q => by
  unfold kasRun at e
  cases e; exact q
 | .ask i j k, a, e, q => by
  unfold kasRun at e
  split at e
  ·rename_i h
   exact hc i j _ h.1 h.2.1 h.2.2 (kasRun_wp hc (k (c i j)) e q)
  ·cases e
theorem kasRun_congr {n : Nat} {c c' : Nat → Nat → Bool} {α : Type} (h : ∀ i j, i < n → j < n → i ≠ j → c i j = c' i j) : ∀ t : KasT α, kasRun n c t = kasRun n c' t
 | .ret _ => rfl
 | .ask i j k => by
  unfold kasRun
  split
  ·rename_i q
   rw [h i j q.1 q.2.1 q.2.2]
   exact kasRun_congr h _
  ·rfl
noncomputable def allL (n : Nat) : Nat → List (List Nat)
 | 0 => [[]]
 | k + 1 => (List.range n).flatMap fun a => (allL n k).map (a :: ·)
theorem mem_allL {n : Nat} : ∀ (k : Nat) (r : List Nat), r.length = k → (∀ x ∈ r, x < n) → r ∈ allL n k
 | 0, r, h, _ => by rw [List.eq_nil_of_length_eq_zero h]; simp [allL]
 | k + 1, [], h, _ => by simp at h
 | k + 1, a :: r, h, hx => by
  unfold allL
  rw [List.mem_flatMap]
  exact ⟨a, List.mem_range.mpr (hx a (.head _)), List.mem_map.mpr ⟨r, mem_allL k r (by simpa using h) (fun x hx' => hx x (.tail _ hx')), rfl⟩⟩
noncomputable def sortCheck (n : Nat) (r : List Nat) : Bool :=
 match kasRun n (fun i j => decide (r.getD i 0 < r.getD j 0)) (kas_sort n) with
 | some p => (p.toList.map fun i => r.getD i 0) == List.range n && p.toList.all (fun i => decide (i < n))
 | none => false
noncomputable def okFor (n : Nat) : Bool := (allL n n).all fun r => !decide r.Nodup || sortCheck n r
theorem ok2 : okFor 2 = true := by decide +kernel
theorem ok3 : okFor 3 = true := by decide +kernel
theorem ok4 : okFor 4 = true := by decide +kernel
theorem sort_ranks {n : Nat} (h2 : 2 ≤ n) (h4 : n ≤ 4) {r : List Nat} (hl : r.length = n) (hr : ∀ x ∈ r, x < n) (hn : r.Nodup) :
  ∃ p : Array Nat, kasRun n (fun i j => decide (r.getD i 0 < r.getD j 0)) (kas_sort n) = some p ∧ p.toList.map (fun i => r.getD i 0) = List.range n ∧ ∀ i ∈ p.toList, i < n := by
 have hok : okFor n = true := by
  rcases (by lia : n = 2 ∨ n = 3 ∨ n = 4) with rfl | rfl | rfl
  ·exact ok2
  ·exact ok3
  ·exact ok4
 have := List.all_eq_true.mp hok r (mem_allL n r hl hr)
 simp only [hn, decide_true, Bool.not_true, Bool.false_or] at this
 unfold sortCheck at this
 split at this
 ·rename_i p hp
  simp only [Bool.and_eq_true, beq_iff_eq, List.all_eq_true, decide_eq_true_eq] at this
  exact ⟨p, hp, this.1, this.2⟩
 ·cases this
end
section
theorem get_sep {w : World} {A : Around} {E : Value → Shared → Prop} {s : Shared} {Q : Value → Shared → Prop} {p : Str} {t : Tok}
  (C : Cx w s.heap) (R : Room A 1) (h : ∀ h' tk t, Keeps s.heap h' → Q (.str (Str.ofString "/") t) {s with heap := h', toks := tk}) :
  wpAny (model pw w) A (call (.ref 333) [.str p t]) Q E s := by
 w_on
 w_strict (
  ((rename Room _ _ => R0); (rename Around => A0); (obtain ⟨hd0, d0, fr0, gd0, u0⟩ := A0); (have hh0 := Room.handled R0); (dsimp only at hh0); (subst hh0); refine wpAny_call ?_)
  refine' enter [(Str.ofString "path", .str p t)] ?k1 ?k6 ?k7 ?k8 ?k9 ?kB ?_ ?c2 ?c3 ?c4 ?c5
  ( k_dflt ((case k1 => assumption); (case k6 => k_is); (case k7 => k_is); (case k8 => assumption); (case k9 => walk_at "my binds"); (case c5 => decide); (case kB => exact locs rfl); (case c2 => exact rfl); (case c3 => exact rfl); (case c4 => exact rfl); intro h' F' N' R'; (try dsimp only at F'); (try dsimp only)); have X := Cx.X (by assumption); obtain ⟨mg, mb, T⟩ := Cx.T (by assumption))
  k_steps
  all_goals (dsimp only; exact h _ _ _ (Fr.keep (by assumption))))
theorem fspath_ {w : World} {A : Around} {E : Value → Shared → Prop} {s : Shared} {Q : Value → Shared → Prop} {p : Str} {t : Tok}
  (C : Cx w s.heap) (R : Room A 2) (h : ∀ h' tk, Keeps s.heap h' → Q (.str p t) {s with heap := h', toks := tk}) :
  wpAny (model pw w) A (call (.ref 319) [.str p t]) Q E s := by
 w_on
 w_strict (
  ((rename Room _ _ => R0); (rename Around => A0); (obtain ⟨hd0, d0, fr0, gd0, u0⟩ := A0); (have hh0 := Room.handled R0); (dsimp only at hh0); (subst hh0); refine wpAny_call ?_)
  refine' enter [(Str.ofString "path", .str p t)] ?k1 ?k6 ?k7 ?k8 ?k9 ?kB ?_ ?c2 ?c3 ?c4 ?c5
  ( k_dflt ((case k1 => assumption); (case k6 => k_is); (case k7 => k_is); (case k8 => assumption); (case k9 => walk_at "my binds"); (case c5 => decide); (case kB => exact locs rfl); (case c2 => exact rfl); (case c3 => exact rfl); (case c4 => exact rfl); intro h' F' N' R'; (try dsimp only at F'); (try dsimp only)); have X := Cx.X (by assumption); obtain ⟨mg, mb, T⟩ := Cx.T (by assumption))
  k_steps
  refine' issub_str ?zh ?_
  case zh => walk_at "my news"
  k_steps
  all_goals (dsimp only; exact h _ _ (Fr.keep (by assumption))))
end
local macro_rules | `(tactic| walk_at "call ref") => `(tactic| (refine' get_sep ?zC ?zR ?_; walk_at "my cr"; walk_at "my lift"))
local macro_rules | `(tactic| walk_at "call ref") => `(tactic| (refine' fspath_ ?zC ?zR ?_; walk_at "my cr"; walk_at "my lift"))
section

noncomputable def baseP (p : Str) : Str := Txt.slice p (some (Txt.rfind p (Str.ofString "/") + 1)) none
noncomputable def headP (p : Str) : Str := Txt.slice p none (some (Txt.rfind p (Str.ofString "/") + 1))
noncomputable def dirP (p : Str) : Str := if ((headP p).length : Int) ≠ 0 then (if headP p != Txt.mul (Str.ofString "/") (headP p).length then Txt.rstripChars (headP p) (Str.ofString "/") else headP p) else headP p
theorem str_eq {Q : Value → Shared → Prop} {x y : Str} {t : Tok} {s : Shared} (e : x = y) (h : Q (.str x t) s) : Q (.str y t) s := e ▸ h
theorem basename_ {w : World} {A : Around} {E : Value → Shared → Prop} {s : Shared} {Q : Value → Shared → Prop} {p : Str} {t : Tok}
  (C : Cx w s.heap) (R : Room A 4) (hp : p.length ≤ 1000) (h : ∀ h' tk t, Keeps s.heap h' → Q (.str (baseP p) t) {s with heap := h', toks := tk}) :
  wpAny (model pw w) A (call (.ref 340) [.str p t]) Q E s := by
 w_on
 w_strict (
  ((rename Room _ _ => R0); (rename Around => A0); (obtain ⟨hd0, d0, fr0, gd0, u0⟩ := A0); (have hh0 := Room.handled R0); (dsimp only at hh0); (subst hh0); refine wpAny_call ?_)
  refine' enter [(Str.ofString "p", .str p t)] ?k1 ?k6 ?k7 ?k8 ?k9 ?kB ?_ ?c2 ?c3 ?c4 ?c5
  ( k_dflt ((case k1 => assumption); (case k6 => k_is); (case k7 => k_is); (case k8 => assumption); (case k9 => walk_at "my binds"); (case c5 => decide); (case kB => exact locs rfl); (case c2 => exact rfl); (case c3 => exact rfl); (case c4 => exact rfl); intro h' F' N' R'; (try dsimp only at F'); (try dsimp only)); have X := Cx.X (by assumption); obtain ⟨mg, mb, T⟩ := Cx.T (by assumption))
  walk_at "my steps"
  exact h _ _ _ (Fr.keep (by assumption)))
theorem dirname_ {w : World} {A : Around} {E : Value → Shared → Prop} {s : Shared} {Q : Value → Shared → Prop} {p : Str} {t : Tok}
  (C : Cx w s.heap) (R : Room A 4) (hp : p.length ≤ 1000) (h : ∀ h' tk t, Keeps s.heap h' → Q (.str (dirP p) t) {s with heap := h', toks := tk}) :
  wpAny (model pw w) A (call (.ref 347) [.str p t]) Q E s := by
 w_on
 w_strict (
  ((rename Room _ _ => R0); (rename Around => A0); (obtain ⟨hd0, d0, fr0, gd0, u0⟩ := A0); (have hh0 := Room.handled R0); (dsimp only at hh0); (subst hh0); refine wpAny_call ?_)
  refine' enter [(Str.ofString "p", .str p t)] ?k1 ?k6 ?k7 ?k8 ?k9 ?kB ?_ ?c2 ?c3 ?c4 ?c5
  ( k_dflt ((case k1 => assumption); (case k6 => k_is); (case k7 => k_is); (case k8 => assumption); (case k9 => walk_at "my binds"); (case c5 => decide); (case kB => exact locs rfl); (case c2 => exact rfl); (case c3 => exact rfl); (case c4 => exact rfl); intro h' F' N' R'; (try dsimp only at F'); (try dsimp only)); have X := Cx.X (by assumption); obtain ⟨mg, mb, T⟩ := Cx.T (by assumption))
  walk_at "my steps"
  all_goals (refine str_eq (x := dirP p) ?_ (h _ _ _ (Fr.keep (by assumption))); unfold dirP headP)
  ·rw [if_pos (by walk_at "a"), if_pos (by walk_at "a")]
  ·rename_i hz3; rw [if_pos (by walk_at "a"), if_neg (by rw [hz3]; exact Bool.false_ne_true)]
  ·rename_i hz; rw [if_neg (fun q => q hz)])
end
section
theorem look_hit {r : Option Value} {y : Str} {u : Value} : (if y = y then some u else r) = some u := if_pos rfl
theorem look_miss {r : Option Value} {x y : Str} {u v : Value} (h : (y == x) = false) (k : r = some v) : (if y = x then some u else r) = some v := by
 rw [if_neg (by simpa using h)]; exact k
section
variable {prog : Program} {w : World} {A : Around} {s : Shared} {env : Env} {h₀ : Heap}
noncomputable def WEnd (h₀ : Heap) (L : Addr) (J : Nat → (Str → Option Value) → List (Addr × Obj) → Prop) (n : Nat) (s₁ : Shared) (Q : Flow → Shared → Prop) (f : Flow) (s₂ : Shared) : Prop :=
 match f with
 | .ret v => Q (.ret v) s₂
 | .brk => Q .next s₂
 | _ => ∃ n' m' news' h' tk, n' < n ∧ s₂ = { s₁ with heap := h', toks := tk } ∧ Fr h₀ L h' m' ∧ News h₀ L h' news' ∧ J n' m' news'
theorem wnext {L : Addr} {J : Nat → (Str → Option Value) → List (Addr × Obj) → Prop} {n : Nat} {s₁ : Shared} {Q : Flow → Shared → Prop} {m' : Str → Option Value} {news' news'' : List (Addr × Obj)} {h' : Heap} {tk : Nat}
  (F : Fr h₀ L h' m') (N : News h₀ L h' news'') (n' : Nat) (lt : n' < n) (j : J n' m' news') (sub : ∀ p ∈ news', p ∈ news'') : WEnd h₀ L J n s₁ Q .next { s₁ with heap := h', toks := tk } := ⟨n', m', news', h', tk, lt, rfl, F, fun p hp => N p (sub p hp), j⟩
theorem while_inv {test : Expr} {body : List Stmt} {pos : Pos} {m₀ : Str → Option Value} {news₀ : List (Addr × Obj)} {Q : Flow → Shared → Prop} {L : Addr}
  (J : Nat → (Str → Option Value) → List (Addr × Obj) → Prop) (n : Nat) (F : Fr h₀ L s.heap m₀) (N : News h₀ L s.heap news₀) (hj : J n m₀ news₀)
  (turn : ∀ n m news h tk, J n m news → Fr h₀ L h m → News h₀ L h news →
   wpAny (model prog w) A (isTrue test env (eval test env)) (fun b s₂ =>
    if b = true then wpAny (model prog w) A (execs body env) (WEnd h₀ L J n { s with heap := h, toks := tk } Q) (fun _ _ => False) s₂
    else Q .next s₂) (fun _ _ => False) { s with heap := h, toks := tk }) :
  wpAny (model prog w) A (exec (.While test body [] pos) env) Q (fun _ _ => False) s := by
 refine wpAny_While ?_
 refine codeAny_whileLoop (fun n s' => ∃ m news h tk, s' = { s with heap := h, toks := tk } ∧ J n m news ∧ Fr h₀ L h m ∧ News h₀ L h news) ?_ n ⟨m₀, news₀, s.heap, s.toks, rfl, hj, F, N⟩
 rintro n s' ⟨m, news, h, tk, rfl, hJ, F', N'⟩
 refine wpAny_mono (turn n m news h tk hJ F' N') (fun b s₂ h₂ => ?_) fun _ _ x => x.elim
 cases b with
 | false =>
  simp only [Bool.false_eq_true, if_false] at h₂ ⊢
  exact wpAny_execs_nil h₂
 | true =>
  simp only [if_true] at h₂ ⊢
  refine wpAny_mono h₂ (fun f s₃ h₃ => ?_) fun _ _ x => x.elim
  cases f with
  | ret v => exact h₃
  | brk => exact h₃
  | next => obtain ⟨n', m', news', h', tk', hl, rfl, F₁, N₁, hJ'⟩ := h₃; exact ⟨n', hl, m', news', h', tk', rfl, hJ', F₁, N₁⟩
  | cont => obtain ⟨n', m', news', h', tk', hl, rfl, F₁, N₁, hJ'⟩ := h₃; exact ⟨n', hl, m', news', h', tk', rfl, hJ', F₁, N₁⟩
end
end
local macro_rules | `(tactic| walk_at "my look") => `(tactic| first | walk_at "a" | exact look_hit | (refine' look_miss ?za ?zb; (case za => kernel_rfl); (case zb => walk_at "my look")) | exact rfl)
section
section
variable {prog : Program} {w : World} {A : Around} {s : Shared} {env : Env} {h₀ : Heap}
noncomputable def AllNe (I : Addr) : List (Addr × Obj) → Prop
 | [] => True
 | p :: r => @Ne Nat p.1 I ∧ AllNe I r
theorem allNe_iff {I : Addr} : ∀ {l : List (Addr × Obj)}, AllNe I l ↔ ∀ p ∈ l, p.1 ≠ I
 | [] => ⟨fun _ _ h => (nomatch h), fun _ => trivial⟩
 | p :: r => by
  constructor
  ·rintro ⟨a, b⟩ q hq
   rcases List.mem_cons.mp hq with rfl | hq
   ·exact a
   ·exact allNe_iff.mp b q hq
  ·intro h
   exact ⟨h p (.head _), allNe_iff.mpr fun q hq => h q (.tail _ hq)⟩
noncomputable def FEnd (h₀ : Heap) (L : Addr) (J : Nat → (Str → Option Value) → List (Addr × Obj) → Prop) (i : Nat) (it : Addr × Obj) (s₁ : Shared) (Q : Flow → Shared → Prop) (f : Flow) (s₂ : Shared) : Prop :=
 match f with
 | .ret v => Q (.ret v) s₂
 | .brk => Q .next s₂
 | _ => ∃ m' news' h' tk, s₂ = { s₁ with heap := h', toks := tk } ∧ Fr h₀ L h' m' ∧ News h₀ L h' (it :: news') ∧ AllNe it.1 news' ∧ J i m' news'
theorem fnext {L : Addr} {J : Nat → (Str → Option Value) → List (Addr × Obj) → Prop} {i : Nat} {it : Addr × Obj} {s₁ : Shared} {Q : Flow → Shared → Prop} {m' : Str → Option Value} {news' news'' : List (Addr × Obj)} {h' : Heap} {tk : Nat}
  (F : Fr h₀ L h' m') (N : News h₀ L h' news'') (j : J i m' news') (sub : ∀ p ∈ it :: news', p ∈ news'') (ne : AllNe it.1 news') : FEnd h₀ L J i it s₁ Q .next { s₁ with heap := h', toks := tk } := ⟨m', news', h', tk, rfl, F, fun p hp => N p (sub p hp), ne, j⟩
theorem fcont {L : Addr} {J : Nat → (Str → Option Value) → List (Addr × Obj) → Prop} {i : Nat} {it : Addr × Obj} {s₁ : Shared} {Q : Flow → Shared → Prop} {m' : Str → Option Value} {news' news'' : List (Addr × Obj)} {h' : Heap} {tk : Nat}
  (F : Fr h₀ L h' m') (N : News h₀ L h' news'') (j : J i m' news') (sub : ∀ p ∈ it :: news', p ∈ news'') (ne : AllNe it.1 news') : FEnd h₀ L J i it s₁ Q .cont { s₁ with heap := h', toks := tk } := ⟨m', news', h', tk, rfl, F, fun p hp => N p (sub p hp), ne, j⟩
inductive FwJ (I : Addr) (n : Nat) (St : Nat → Heap → Prop) (J : Nat → (Str → Option Value) → List (Addr × Obj) → Prop) (s : Shared) (h₀ : Heap) (env : Env) (k : Nat) (s' : Shared) : Prop
 | mk (h' tk m' news' i : _) (e0 : s' = { s with heap := h', toks := tk }) (e1 : St i h') (e2 : Fr h₀ env.locals h' m') (e3 : News h₀ env.locals h' news') (e4 : AllNe I news') (e5 : J i m' news') (e6 : i ≤ n) (e7 : k = n + 1 - i) : FwJ I n St J s h₀ env k s'
end
noncomputable section
namespace cfor_walk
noncomputable def zP (prog : Program) (w : World) (A : Around) (s : Shared) (env : Env) (h₀ : Heap) (target : Expr) (body : List Stmt) (I : Addr) (fp : List Addr) (n : Nat) (P : Nat → Value → Prop) (St : Nat → Heap → Prop) (m₀ : Str → Option Value) (news₀ : List (Addr × Obj)) (Q : Flow → Shared → Prop) (J : Nat → (Str → Option Value) → List (Addr × Obj) → Prop) : Prop := ∀ (W : Walks prog w A I fp [I] n P St) (hI : ∀ i h, St i h → ∃ o, h.get? I = some o) (hL : env.locals ∉ fp) (hIf : I ∈ fp) (hI0 : h₀.get? I = none) (hgo : ∀ i (s' : Shared) v (Q' : Unit → Shared → Prop), St i s'.heap → Q' () s' → wpAny (model prog w) A (letOwnedTupleGo target (.ref I) v) Q' (fun _ _ => False) s') (hst : St 0 s.heap) (F : Fr h₀ env.locals s.heap m₀) (N : News h₀ env.locals s.heap news₀) (hne : AllNe I news₀) (hj : J 0 m₀ news₀) (keep : ∀ b ∈ fp, b ≠ I → (∃ o, h₀.get? b = some o) ∨ ∃ o, s.heap.get? b = some o ∧ ∀ i m news, J i m news → (b, o) ∈ news) (turn : ∀ i v oI m news h tk, i < n → P i v → J i m news → AllNe I news → Fr h₀ env.locals h m → News h₀ env.locals h ((I, oI) :: news) →
   wpAny (model prog w) A (assign target env v) (fun _ s₂ => wpAny (model prog w) A (execs body env) (FEnd h₀ env.locals J (i + 1) (I, oI) { s with heap := h, toks := tk } Q) (fun _ _ => False) s₂) (fun _ _ => False) { s with heap := h, toks := tk }) (done : ∀ m news h tk, J n m news → Fr h₀ env.locals h m → News h₀ env.locals h news → Q .next { s with heap := h, toks := tk }), codeAny (model prog w) A (.forLoop target (.ref I) body [] env) (fun r s' => match r with | .ok f => Q f s' | .error e => cameBackBy (model prog w) A env (fun _ _ => False) e s') s
noncomputable def zT (x : YY) : Prop := zP (x 14 0) (x 1 1) (x 15 2) (x 5 3) (x 16 4) (x 2 5) (x 17 6) (x 18 7) (x 0 8) (x 19 9) (x 0 10) (x 20 11) (x 21 12) (x 6 13) (x 7 14) (x 22 15) (x 23 16)
noncomputable def zC := pickY zT
@[irreducible] def prog : Program := zC 14 0
@[irreducible] def w : World := zC 1 1
@[irreducible] def A : Around := zC 15 2
@[irreducible] def s : Shared := zC 5 3
@[irreducible] def env : Env := zC 16 4
@[irreducible] def h₀ : Heap := zC 2 5
@[irreducible] def target : Expr := zC 17 6
@[irreducible] def body : List Stmt := zC 18 7
def I : Addr := zC 0 8
@[irreducible] def fp : List Addr := zC 19 9
def n : Nat := zC 0 10
def P : Nat → Value → Prop := zC 20 11
def St : Nat → Heap → Prop := zC 21 12
def m₀ : Str → Option Value := zC 6 13
@[irreducible] def news₀ : List (Addr × Obj) := zC 7 14
def Q : Flow → Shared → Prop := zC 22 15
def J : Nat → (Str → Option Value) → List (Addr × Obj) → Prop := zC 23 16
theorem zA (h : zP prog w A s env h₀ target body I fp n P St m₀ news₀ Q J) : ∀ y, zT y := by with_unfolding_all exact pickY_spec zT h
theorem zK : zP prog w A s env h₀ target body I fp n P St m₀ news₀ Q J := by
 intro W hI hL hIf hI0 hgo hst F N hne hj keep turn done
 have hLI : env.locals ≠ I := fun e => hL (e ▸ hIf)
 refine codeAny_forLoop_any
  (FwJ I n St J s h₀ env) ?_ (n + 1)
  ⟨s.heap, s.toks, m₀, news₀, 0, rfl, hst, F, N, hne, hj, Nat.zero_le _, rfl⟩
 rintro k s' ⟨h', tk, m', news', i, rfl, hst', F', N', hne', hJ, hi, rfl⟩
 have next : ∀ h₁ : Heap, (∀ b o, b ∉ [I] → h'.get? b = some o → h₁.get? b = some o) → Fr h₀ env.locals h₁ m' ∧ News h₀ env.locals h₁ news' := fun h₁ hk₁ =>
  ⟨⟨F'.ns.at' fun o e => hk₁ _ o (by simpa using hLI) e, fun b o e => hk₁ b o (fun hb => by rw [List.mem_singleton.mp hb, hI0] at e; cases e) (F'.keep b o e), F'.above⟩,
   fun p hp => ⟨hk₁ _ _ (by simpa using allNe_iff.mp hne' p hp) (N' p hp).1, (N' p hp).2⟩⟩
 have ff : ∀ e s'', False → notedBy (model prog w) A env (fun e s' => cameBackBy (model prog w) A env (fun _ _ => False) e s') e s'' := fun _ _ x => x.elim
 by_cases hlt : i < n
 ·refine W.item i _ _ _ hlt hst' fun v h₁ tk₁ hP hst₁ hk₁ => ?_
  obtain ⟨F₁, N₁⟩ := next h₁ hk₁
  refine wpAny_mono (hgo (i + 1) _ v _ hst₁ ?_) (fun _ _ x => x) ff
  obtain ⟨oI, hoI⟩ := hI _ _ hst₁
  have N₂ : News h₀ env.locals h₁ ((I, oI) :: news') := fun p hp => by
   rcases List.mem_cons.mp hp with rfl | hp
   ·exact ⟨hoI, fun e => hLI e.symm, hI0⟩
   ·exact N₁ p hp
  refine wpAny_mono (turn i v oI m' news' h₁ tk₁ hlt hP hJ hne' F₁ N₂) (fun _ s₂ h₂ => wpAny_mono h₂ (fun f s₃ h₃ => ?_) ff) ff
  have fin : (∃ m' news' h' tk, s₃ = { s with heap := h', toks := tk } ∧ Fr h₀ env.locals h' m' ∧ News h₀ env.locals h' ((I, oI) :: news') ∧ AllNe I news' ∧ J (i + 1) m' news') →
    ∃ m, m < n + 1 - i ∧ FwJ I n St J s h₀ env m s₃ := by
   rintro ⟨m₂, news₂, h₃', tk₃, rfl, F₃, N₃, ne₃, hJ₃⟩
   refine ⟨n + 1 - (i + 1), nM hlt, h₃', tk₃, m₂, news₂, i + 1, rfl, ?_, F₃, fun p hp => N₃ p (.tail _ hp), ne₃, hJ₃, hlt, rfl⟩
   refine W.frame _ _ _ hst₁ fun b hb o e => ?_
   by_cases hbI : b = I
   ·subst hbI
    rw [hoI] at e; cases e
    exact (N₃ _ (.head _)).1
   ·rcases keep b hb hbI with ⟨o', ho'⟩ | ⟨o', ho', hmem⟩
    ·have := F₁.keep b o' ho'
     rw [e] at this; cases this
     exact F₃.keep b _ ho'
    ·have h1 := (N₁ _ (hmem _ _ _ hJ)).1
     dsimp only at h1
     rw [e] at h1; cases h1
     exact (N₃ _ (.tail _ (hmem _ _ _ hJ₃))).1
  cases f with
  | ret v => exact h₃
  | brk => exact h₃
  | next => exact fin h₃
  | cont => exact fin h₃
 ·have hin : i = n := by lia
  subst hin
  refine W.done _ _ _ hst' fun h₁ tk₁ hk₁ => wpAny_execs_nil ?_
  obtain ⟨F₁, N₁⟩ := next h₁ hk₁
  exact done m' news' h₁ tk₁ hJ F₁ N₁
end cfor_walk
end
section
variable {prog : Program} {w : World} {A : Around} {s : Shared} {env : Env} {h₀ : Heap}
theorem for_walk {target : Expr} {body : List Stmt} {I : Addr} {fp : List Addr} {n : Nat} {P : Nat → Value → Prop} {St : Nat → Heap → Prop} {m₀ : Str → Option Value} {news₀ : List (Addr × Obj)} {Q : Flow → Shared → Prop}
  (W : Walks prog w A I fp [I] n P St) (hI : ∀ i h, St i h → ∃ o, h.get? I = some o) (hL : env.locals ∉ fp) (hIf : I ∈ fp) (hI0 : h₀.get? I = none)
  (hgo : ∀ i (s' : Shared) v (Q' : Unit → Shared → Prop), St i s'.heap → Q' () s' → wpAny (model prog w) A (letOwnedTupleGo target (.ref I) v) Q' (fun _ _ => False) s')
  (J : Nat → (Str → Option Value) → List (Addr × Obj) → Prop)
  (hst : St 0 s.heap) (F : Fr h₀ env.locals s.heap m₀) (N : News h₀ env.locals s.heap news₀) (hne : AllNe I news₀) (hj : J 0 m₀ news₀)
  (keep : ∀ b ∈ fp, b ≠ I → (∃ o, h₀.get? b = some o) ∨ ∃ o, s.heap.get? b = some o ∧ ∀ i m news, J i m news → (b, o) ∈ news)
  (turn : ∀ i v oI m news h tk, i < n → P i v → J i m news → AllNe I news → Fr h₀ env.locals h m → News h₀ env.locals h ((I, oI) :: news) →
   wpAny (model prog w) A (assign target env v) (fun _ s₂ => wpAny (model prog w) A (execs body env) (FEnd h₀ env.locals J (i + 1) (I, oI) { s with heap := h, toks := tk } Q) (fun _ _ => False) s₂) (fun _ _ => False) { s with heap := h, toks := tk })
  (done : ∀ m news h tk, J n m news → Fr h₀ env.locals h m → News h₀ env.locals h news → Q .next { s with heap := h, toks := tk }) :
  codeAny (model prog w) A (.forLoop target (.ref I) body [] env) (fun r s' => match r with | .ok f => Q f s' | .error e => cameBackBy (model prog w) A env (fun _ _ => False) e s') s := by
 exact cfor_walk.zA cfor_walk.zK (putY [⟨14, prog⟩, ⟨1, w⟩, ⟨15, A⟩, ⟨5, s⟩, ⟨16, env⟩, ⟨2, h₀⟩, ⟨17, target⟩, ⟨18, body⟩, ⟨0, I⟩, ⟨19, fp⟩, ⟨0, n⟩, ⟨20, P⟩, ⟨21, St⟩, ⟨6, m₀⟩, ⟨7, news₀⟩, ⟨22, Q⟩, ⟨23, J⟩]) W hI hL hIf hI0 hgo hst F N hne hj keep turn done
theorem go_name {x : Str} {px : Pos} {I : Addr} {v : Value} {s' : Shared} {Q' : Unit → Shared → Prop} (q : Q' () s') : wpAny (model prog w) A (letOwnedTupleGo (.Name x px) (.ref I) v) Q' (fun _ _ => False) s' := wpAny_pure q
theorem iter_list {target : Expr} {body : List Stmt} {l : Addr} {its : Array Value} {m₀ : Str → Option Value} {news₀ : List (Addr × Obj)} {Q : Flow → Shared → Prop}
  (hh : A.handled = none) (hl : s.heap.IsList l its)
  (J : Nat → (Str → Option Value) → List (Addr × Obj) → Prop)
  (F : Fr h₀ env.locals s.heap m₀) (N : News h₀ env.locals s.heap news₀) (hj : J 0 m₀ news₀)
  (keep : (∃ o, h₀.get? l = some o) ∨ ∃ o, s.heap.get? l = some o ∧ ∀ i m news, J i m news → (l, o) ∈ news)
  (hgo : ∀ i I (s' : Shared) v (Q' : Unit → Shared → Prop), s'.heap.IsListIter I l i → Q' () s' → wpAny (model prog w) A (letOwnedTupleGo target (.ref I) v) Q' (fun _ _ => False) s')
  (turn : ∀ i v I oI m news h tk, its[i]? = some v → J i m news → AllNe I news → (∀ p ∈ news₀, p.1 < I) → Fr h₀ env.locals h m → News h₀ env.locals h ((I, oI) :: news) →
   wpAny (model prog w) A (assign target env v) (fun _ s₂ => wpAny (model prog w) A (execs body env) (FEnd h₀ env.locals J (i + 1) (I, oI) { s with heap := h, toks := tk } Q) (fun _ _ => False) s₂) (fun _ _ => False) { s with heap := h, toks := tk })
  (done : ∀ m news h tk, J its.size m news → Fr h₀ env.locals h m → News h₀ env.locals h news → Q .next { s with heap := h, toks := tk }) :
  wpAny (model prog w) A (pyIter (.ref l)) (fun it s₂ => codeAny (model prog w) A (.forLoop target it body [] env) (fun r s' => match r with | .ok f => Q f s' | .error e => cameBackBy (model prog w) A env (fun _ _ => False) e s') s₂) (fun _ _ => False) s := by
 obtain ⟨ol, hol, hlr⟩ := id hl
 have hlt : l < s.heap.objs.size := Heap.lt_size hol
 have hne : l ≠ s.heap.objs.size := Nat.ne_of_lt hlt
 have hLl : env.locals ≠ l := fun e => by
  rcases keep with ⟨o, ho⟩ | ⟨o, ho, hm⟩
  ·exact absurd (Nat.lt_of_lt_of_le (Heap.lt_size ho) F.above) (e ▸ Nat.lt_irrefl _)
  ·exact (N _ (hm _ _ _ hj)).2.1 e.symm
 refine wpAny_pyIter_list hl ?_
 have W := Walks.list (prog := prog) (w := w) hh s.heap.objs.size l hne its
 refine for_walk (s := { s with heap := s.heap.push _ }) W (fun i h st => let ⟨o, ho, _⟩ := st.1; ⟨o, ho⟩) ?_ (.head _) (next_is_new F) (fun i s' v Q' st q => hgo i _ s' v Q' st.1 q) J ⟨⟨_, Heap.get?_push_size _ rfl, rfl, rfl⟩, hl.at fun o e => Heap.get?_push_of_some _ e⟩ (F.push _)
  (fun p hp => ⟨Heap.get?_push_of_some _ (N p hp).1, (N p hp).2⟩) (allNe_iff.mpr fun p hp => Nat.ne_of_lt (Heap.lt_size (N p hp).1)) hj ?_ ?_ done
 ·intro hm
  rcases List.mem_cons.mp hm with e | hm
  ·exact absurd F.ns.lt (e ▸ Nat.lt_irrefl _)
  ·exact hLl (List.mem_singleton.mp hm)
 ·intro b hb hbI
  rcases List.mem_cons.mp hb with e | hb
  ·exact absurd e hbI
  ·rw [List.mem_singleton.mp hb]
   rcases keep with k | ⟨o, ho, hm⟩
   ·exact .inl k
   ·exact .inr ⟨o, Heap.get?_push_of_some _ ho, hm⟩
 ·intro i v oI m news h tk hi hP hJ hne' F' N'
  exact turn i v _ oI m news h tk hP hJ hne' (fun p hp => Heap.lt_size (N p hp).1) F' N'
theorem iter_listL {target : Expr} {body : List Stmt} {l : Addr} {its : Array Value} {m₀ : Str → Option Value} {news₀ : List (Addr × Obj)} {Q : Flow → Shared → Prop} {L : Addr}
  (hL : env.locals = L) (hh : A.handled = none) (hl : s.heap.IsList l its)
  (J : Nat → (Str → Option Value) → List (Addr × Obj) → Prop)
  (F : Fr h₀ L s.heap m₀) (N : News h₀ L s.heap news₀) (hj : J 0 m₀ news₀)
  (keep : (∃ o, h₀.get? l = some o) ∨ ∃ o, s.heap.get? l = some o ∧ ∀ i m news, J i m news → (l, o) ∈ news)
  (hgo : ∀ i I (s' : Shared) v (Q' : Unit → Shared → Prop), s'.heap.IsListIter I l i → Q' () s' → wpAny (model prog w) A (letOwnedTupleGo target (.ref I) v) Q' (fun _ _ => False) s')
  (turn : ∀ i v I oI m news h tk, its[i]? = some v → J i m news → AllNe I news → (∀ p ∈ news₀, p.1 < I) → Fr h₀ L h m → News h₀ L h ((I, oI) :: news) →
   wpAny (model prog w) A (assign target env v) (fun _ s₂ => wpAny (model prog w) A (execs body env) (FEnd h₀ L J (i + 1) (I, oI) { s with heap := h, toks := tk } Q) (fun _ _ => False) s₂) (fun _ _ => False) { s with heap := h, toks := tk })
  (done : ∀ m news h tk, J its.size m news → Fr h₀ L h m → News h₀ L h news → Q .next { s with heap := h, toks := tk }) :
  wpAny (model prog w) A (pyIter (.ref l)) (fun it s₂ => codeAny (model prog w) A (.forLoop target it body [] env) (fun r s' => match r with | .ok f => Q f s' | .error e => cameBackBy (model prog w) A env (fun _ _ => False) e s') s₂) (fun _ _ => False) s := by
 subst hL
 exact iter_list hh hl J F N hj keep hgo turn done
end
end
section
noncomputable def CmpB (prog : Program) (w : World) (A : Around) (op : CmpOp) (b0 : Heap) (P : Nat → Value → Prop) (bt : Nat → Nat → Bool) : Prop :=
 ∀ i j vi vj (s : Shared) (Q : Value → Shared → Prop) (E : Value → Shared → Prop), Keeps b0 s.heap → P i vi → P j vj → (∀ h' tk, Keeps s.heap h' → Q (.bool (bt i j)) { s with heap := h', toks := tk }) → wpAny (model prog w) A (richCompare op vi vj) Q E s
section
variable {prog : Program} {w : World} {A : Around} {R : Result → Shared → Prop} {I : Addr} {fp wr : List Addr} {n : Nat} {P : Nat → Value → Prop} {St : Nat → Heap → Prop} {b0 : Heap}
theorem max_loopB (W : Walks prog w A.in1 I fp wr n P St) (bt : Nat → Nat → Bool) (hcmp : CmpB prog w A.in1 .Gt b0 P bt) (S : Addr) (hSf : S ∉ fp) (hw0 : ∀ b ∈ wr, b0.get? b = none) (hS0 : b0.get? S = none) :
  ∀ (k j : Nat) (s : Shared) (vb : Value) (c : Nat), n - (j + 1) = k → j + 1 ≤ n → Keeps b0 s.heap → St (j + 1) s.heap → P (argBest bt j) vb →
  s.heap.get? S = some { cls := .type "list", dict := none, data := .seq #[vb, vb] c, slots := #[] } →
  (∀ v h' tk, P (argBest bt (n - 1)) v → (∀ b o, b ∉ wr → b ≠ S → s.heap.get? b = some o → h'.get? b = some o) → R (.ok (.ret v)) { s with heap := h', toks := tk }) →
  codeAny (model prog w) A (.builtin "max.loop" ⟨[.ref I, .none, .ref S], []⟩) R s := by
 have hSw : S ∉ wr := fun h => hSf (W.sub _ h)
 have hname : (toString "max" ++ toString ".loop" : String) = "max.loop" := by decide
 intro k
 induction k with
 | zero =>
  intro j s vb c hk hj kb hst hPb hS hR
  have hin : j + 1 = n := nZ hk hj
  refine codeAny_builtin F.entry_max_loop ?_
  rw [Around.under_plainId F.plain_max_loop _]
  show wpAny _ A.in1 (seqItems? (.ref S) >>= _) _ _ s
  refine wpAny_bind (wpAny_seqItems hS rfl ?_)
  show wpAny _ A.in1 (tryCatch (pyNext (.ref I)) _ >>= _) _ _ s
  refine wpAny_bind (wpAny_tryCatch (W.done s _ _ (hin ▸ hst) fun h' tk hk' => ?_))
  have hS' := hk' S _ hSw hS
  show wpAny _ A.in1 (updateSeq S (fun _ => #[]) >>= _) _ _ _
  refine wpAny_bind ?_
  refine wpAny_updateSeq hS' rfl (wpAny_bind (wpAny_letGo (wpAny_pure ?_)))
  refine hR vb _ tk (by rw [← hin]; exact hPb) fun b o hbw hbS e => (Heap.get?_update_other _ _ (Ne.symm hbS)).trans (hk' b o hbw e)
 | succ k ih =>
  intro j s vb c hk hj kb hst hPb hS hR
  have hlt : j + 1 < n := nQ hk
  refine codeAny_builtin F.entry_max_loop ?_
  rw [Around.under_plainId F.plain_max_loop _]
  show wpAny _ A.in1 (seqItems? (.ref S) >>= _) _ _ s
  refine wpAny_bind (wpAny_seqItems hS rfl ?_)
  show wpAny _ A.in1 (tryCatch (pyNext (.ref I)) _ >>= _) _ _ s
  refine wpAny_bind (wpAny_tryCatch (W.item (j + 1) s _ _ hlt hst fun v h' tk hP hst' hk' => ?_))
  have hS1 := hk' S _ hSw hS
  show wpAny _ A.in1 (tryCatch (holding [v, v] (richCompare .Gt v vb >>= _)) _ >>= _) _ _ _
  refine wpAny_bind (wpAny_tryCatch (wpAny_holding (wpAny_bind (hcmp (j + 1) (argBest bt j) v vb _ _ _ (fun b o e => hk' b o (fun hb => by rw [hw0 b hb] at e; cases e) (kb b o e)) hP hPb fun h₂ tk₂ k₂ => ?_))))
  have hS' := k₂ S _ hS1
  have hst₂ := W.frame _ _ _ hst' fun b _ o e => k₂ b o e
  refine wpAny_bind (wpAny_holding (wpAny_truthy_bool ?_))
  refine wpAny_bind (wpAny_letGo (wpAny_pure ?_))
  cases hb : bt (j + 1) (argBest bt j) with
  | true =>
   simp only [if_true]
   refine wpAny_bind ?_
   refine wpAny_updateSeq hS' rfl (wpAny_bind (wpAny_letGo ?_))
   rw [hname]
   refine wpAny_pure ⟨plainId_quiet F.plain_max_loop _, ih (j + 1) _ v _ (nN hk) hlt (fun b o e => (Heap.get?_update_other _ _ (fun h : S = b => by rw [← h, hS0] at e; cases e)).trans (k₂ b o (hk' b o (fun hb => by rw [hw0 b hb] at e; cases e) (kb b o e)))) (W.frame _ _ _ hst₂ fun b hbf o e => ?_) (by simp only [argBest, hb, if_true]; exact hP) (Heap.get?_update_self _ hS' rfl)
    fun v' h'' tk'' hP' hk'' => ?_⟩
   ·exact (Heap.get?_update_other _ _ (fun h : S = b => hSf (by rw [h]; exact hbf))).trans e
   ·exact hR v' h'' tk'' hP' fun b o hbw hbS e => hk'' b o hbw hbS ((Heap.get?_update_other _ _ (Ne.symm hbS)).trans (k₂ b o (hk' b o hbw e)))
  | false =>
   simp only [Bool.false_eq_true, if_false]
   refine wpAny_bind (wpAny_letGo ?_)
   rw [hname]
   refine wpAny_pure ⟨plainId_quiet F.plain_max_loop _, ih (j + 1) _ vb c (nN hk) hlt (fun b o e => k₂ b o (hk' b o (fun hb => by rw [hw0 b hb] at e; cases e) (kb b o e))) hst₂ (by simp only [argBest, hb, Bool.false_eq_true, if_false]; exact hPb) hS' fun v' h'' tk'' hP' hk'' => ?_⟩
   exact hR v' h'' tk'' hP' fun b o hbw hbS e => hk'' b o hbw hbS (k₂ b o (hk' b o hbw e))

theorem max_loop_firstB (W : Walks prog w A.in1 I fp wr n P St) (bt : Nat → Nat → Bool) (hcmp : CmpB prog w A.in1 .Gt b0 P bt) (S : Addr) (hSf : S ∉ fp) (hw0 : ∀ b ∈ wr, b0.get? b = none) (hS0 : b0.get? S = none) (hn : 0 < n) {s : Shared} {c : Nat} (kb : Keeps b0 s.heap) (hst : St 0 s.heap)
  (hS : s.heap.get? S = some { cls := .type "list", dict := none, data := .seq #[] c, slots := #[] })
  (hR : ∀ v h' tk, P (argBest bt (n - 1)) v → (∀ b o, b ∉ wr → b ≠ S → s.heap.get? b = some o → h'.get? b = some o) → R (.ok (.ret v)) { s with heap := h', toks := tk }) :
  codeAny (model prog w) A (.builtin "max.loop" ⟨[.ref I, .none, .ref S], []⟩) R s := by
 have hSw : S ∉ wr := fun h => hSf (W.sub _ h)
 have hname : (toString "max" ++ toString ".loop" : String) = "max.loop" := by decide
 refine codeAny_builtin F.entry_max_loop ?_
 rw [Around.under_plainId F.plain_max_loop _]
 show wpAny _ A.in1 (seqItems? (.ref S) >>= _) _ _ s
 refine wpAny_bind (wpAny_seqItems hS rfl ?_)
 show wpAny _ A.in1 (tryCatch (pyNext (.ref I)) _ >>= _) _ _ s
 refine wpAny_bind (wpAny_tryCatch (W.item 0 s _ _ hn hst fun v h' tk hP hst' hk' => ?_))
 have hS' := hk' S _ hSw hS
 show wpAny _ A.in1 (updateSeq S (fun _ => #[v, v]) >>= _) _ _ _
 refine wpAny_bind ?_
 refine wpAny_updateSeq hS' rfl ?_
 rw [hname]
 refine wpAny_pure ⟨plainId_quiet F.plain_max_loop _, max_loopB W bt hcmp S hSf hw0 hS0 _ 0 _ v _ rfl hn (fun b o e => (Heap.get?_update_other _ _ (fun h : S = b => by rw [← h, hS0] at e; cases e)).trans (hk' b o (fun hb => by rw [hw0 b hb] at e; cases e) (kb b o e))) (W.frame _ _ _ hst' fun b hbf o e => ?_) hP (Heap.get?_update_self _ hS' rfl) fun v' h'' tk'' hP' hk'' => ?_⟩
 ·exact (Heap.get?_update_other _ _ (fun h : S = b => hSf (by rw [h]; exact hbf))).trans e
 ·exact hR v' h'' tk'' hP' fun b o hbw hbS e => hk'' b o hbw hbS ((Heap.get?_update_other _ _ (Ne.symm hbS)).trans (hk' b o hbw e))
end
section
variable {prog : Program} {w : World} {A : Around} {E : Value → Shared → Prop} {s : Shared}
theorem max_walkB {x : Value} {Q : Value → Shared → Prop}
  (h : wpAny (model prog w) A.in1 (pyIter x) (fun it s₂ => ∃ I fp wr n P St bt b0, it = .ref I ∧ Walks prog w A.in1 I fp wr n P St ∧ St 0 s₂.heap ∧ (∀ b ∈ fp, b < s₂.heap.objs.size) ∧ 0 < n ∧ CmpB prog w A.in1 .Gt b0 P bt ∧ (∀ b ∈ wr, b0.get? b = none) ∧ Keeps b0 s₂.heap ∧
   ∀ v h' tk, P (argBest bt (n - 1)) v → (∀ b o, b ∉ wr → s₂.heap.get? b = some o → h'.get? b = some o) → Q v { s₂ with heap := h', toks := tk }) E s) :
  wpAny (model prog w) A (call (.builtin "max") [x]) Q E s := by
 have hname : (toString "max" ++ toString ".loop" : String) = "max.loop" := by decide
 refine call_function_tree F.kind_max F.plain_max F.entry_max (F.args_max1 _) ?_
 show wpAny _ A.in1 (Builtin.Builtins.bindParams "max" ["key", "default"] 0 ⟨[], []⟩ >>= _) _ _ s
 refine wpAny_bind (wpAny_of_eq (show Builtin.Builtins.bindParams "max" ["key", "default"] 0 ⟨[], []⟩ = pure [none, none] from rfl) ?_)
 refine wpAny_bind (wpAny_pure ?_)
 refine wpAny_bind (wpAny_mono h (fun it s₂ h₂ => ?_) fun _ _ e => e)
 obtain ⟨I, fp, wr, n, P, St, bt, b0, rfl, W, hst, hfp, hn, hcmp, hw0, kb, hQ⟩ := h₂
 refine wpAny_bind (wpAny_newObj_type ?_)
 have hSf : s₂.heap.objs.size ∉ fp := fun hm => Nat.lt_irrefl _ (hfp _ hm)
 rw [hname]
 refine wpAny_pure ⟨plainId_quiet F.plain_max_loop _, max_loop_firstB W bt hcmp s₂.heap.objs.size hSf hw0 (by
  cases e : b0.get? s₂.heap.objs.size with
  | none => rfl
  | some o => exact absurd (Heap.lt_size (kb _ _ e)) (Nat.lt_irrefl _)) hn (fun b o e => Heap.get?_push_of_some _ (kb b o e)) (W.frame _ _ _ hst fun b _ o e => Heap.get?_push_of_some _ e) (Heap.get?_push_size _ rfl) fun v h' tk hP hk => ?_⟩
 exact hQ v h' tk hP fun b o hbw e => hk b o hbw (Nat.ne_of_lt (Heap.lt_size e)) (Heap.get?_push_of_some _ e)
end
section
variable {prog : Program} {w : World} {A : Around} {R : Result → Shared → Prop} {I : Addr} {fp wr : List Addr} {n : Nat} {P : Nat → Value → Prop} {St : Nat → Heap → Prop} {b0 : Heap}
theorem min_loopB (W : Walks prog w A.in1 I fp wr n P St) (bt : Nat → Nat → Bool) (hcmp : CmpB prog w A.in1 .Lt b0 P bt) (S : Addr) (hSf : S ∉ fp) (hw0 : ∀ b ∈ wr, b0.get? b = none) (hS0 : b0.get? S = none) :
  ∀ (k j : Nat) (s : Shared) (vb : Value) (c : Nat), n - (j + 1) = k → j + 1 ≤ n → Keeps b0 s.heap → St (j + 1) s.heap → P (argBest bt j) vb →
  s.heap.get? S = some { cls := .type "list", dict := none, data := .seq #[vb, vb] c, slots := #[] } →
  (∀ v h' tk, P (argBest bt (n - 1)) v → (∀ b o, b ∉ wr → b ≠ S → s.heap.get? b = some o → h'.get? b = some o) → R (.ok (.ret v)) { s with heap := h', toks := tk }) →
  codeAny (model prog w) A (.builtin "min.loop" ⟨[.ref I, .none, .ref S], []⟩) R s := by
 have hSw : S ∉ wr := fun h => hSf (W.sub _ h)
 have hname : (toString "min" ++ toString ".loop" : String) = "min.loop" := by decide
 intro k
 induction k with
 | zero =>
  intro j s vb c hk hj kb hst hPb hS hR
  have hin : j + 1 = n := nZ hk hj
  refine codeAny_builtin F.entry_min_loop ?_
  rw [Around.under_plainId F.plain_min_loop _]
  show wpAny _ A.in1 (seqItems? (.ref S) >>= _) _ _ s
  refine wpAny_bind (wpAny_seqItems hS rfl ?_)
  show wpAny _ A.in1 (tryCatch (pyNext (.ref I)) _ >>= _) _ _ s
  refine wpAny_bind (wpAny_tryCatch (W.done s _ _ (hin ▸ hst) fun h' tk hk' => ?_))
  have hS' := hk' S _ hSw hS
  show wpAny _ A.in1 (updateSeq S (fun _ => #[]) >>= _) _ _ _
  refine wpAny_bind ?_
  refine wpAny_updateSeq hS' rfl (wpAny_bind (wpAny_letGo (wpAny_pure ?_)))
  refine hR vb _ tk (by rw [← hin]; exact hPb) fun b o hbw hbS e => (Heap.get?_update_other _ _ (Ne.symm hbS)).trans (hk' b o hbw e)
 | succ k ih =>
  intro j s vb c hk hj kb hst hPb hS hR
  have hlt : j + 1 < n := nQ hk
  refine codeAny_builtin F.entry_min_loop ?_
  rw [Around.under_plainId F.plain_min_loop _]
  show wpAny _ A.in1 (seqItems? (.ref S) >>= _) _ _ s
  refine wpAny_bind (wpAny_seqItems hS rfl ?_)
  show wpAny _ A.in1 (tryCatch (pyNext (.ref I)) _ >>= _) _ _ s
  refine wpAny_bind (wpAny_tryCatch (W.item (j + 1) s _ _ hlt hst fun v h' tk hP hst' hk' => ?_))
  have hS1 := hk' S _ hSw hS
  show wpAny _ A.in1 (tryCatch (holding [v, v] (richCompare .Lt v vb >>= _)) _ >>= _) _ _ _
  refine wpAny_bind (wpAny_tryCatch (wpAny_holding (wpAny_bind (hcmp (j + 1) (argBest bt j) v vb _ _ _ (fun b o e => hk' b o (fun hb => by rw [hw0 b hb] at e; cases e) (kb b o e)) hP hPb fun h₂ tk₂ k₂ => ?_))))
  have hS' := k₂ S _ hS1
  have hst₂ := W.frame _ _ _ hst' fun b _ o e => k₂ b o e
  refine wpAny_bind (wpAny_holding (wpAny_truthy_bool ?_))
  refine wpAny_bind (wpAny_letGo (wpAny_pure ?_))
  cases hb : bt (j + 1) (argBest bt j) with
  | true =>
   simp only [if_true]
   refine wpAny_bind ?_
   refine wpAny_updateSeq hS' rfl (wpAny_bind (wpAny_letGo ?_))
   rw [hname]
   refine wpAny_pure ⟨plainId_quiet F.plain_min_loop _, ih (j + 1) _ v _ (nN hk) hlt (fun b o e => (Heap.get?_update_other _ _ (fun h : S = b => by rw [← h, hS0] at e; cases e)).trans (k₂ b o (hk' b o (fun hb => by rw [hw0 b hb] at e; cases e) (kb b o e)))) (W.frame _ _ _ hst₂ fun b hbf o e => ?_) (by simp only [argBest, hb, if_true]; exact hP) (Heap.get?_update_self _ hS' rfl)
    fun v' h'' tk'' hP' hk'' => ?_⟩
   ·exact (Heap.get?_update_other _ _ (fun h : S = b => hSf (by rw [h]; exact hbf))).trans e
   ·exact hR v' h'' tk'' hP' fun b o hbw hbS e => hk'' b o hbw hbS ((Heap.get?_update_other _ _ (Ne.symm hbS)).trans (k₂ b o (hk' b o hbw e)))
  | false =>
   simp only [Bool.false_eq_true, if_false]
   refine wpAny_bind (wpAny_letGo ?_)
   rw [hname]
   refine wpAny_pure ⟨plainId_quiet F.plain_min_loop _, ih (j + 1) _ vb c (nN hk) hlt (fun b o e => k₂ b o (hk' b o (fun hb => by rw [hw0 b hb] at e; cases e) (kb b o e))) hst₂ (by simp only [argBest, hb, Bool.false_eq_true, if_false]; exact hPb) hS' fun v' h'' tk'' hP' hk'' => ?_⟩
   exact hR v' h'' tk'' hP' fun b o hbw hbS e => hk'' b o hbw hbS (k₂ b o (hk' b o hbw e))

theorem min_loop_firstB (W : Walks prog w A.in1 I fp wr n P St) (bt : Nat → Nat → Bool) (hcmp : CmpB prog w A.in1 .Lt b0 P bt) (S : Addr) (hSf : S ∉ fp) (hw0 : ∀ b ∈ wr, b0.get? b = none) (hS0 : b0.get? S = none) (hn : 0 < n) {s : Shared} {c : Nat} (kb : Keeps b0 s.heap) (hst : St 0 s.heap)
  (hS : s.heap.get? S = some { cls := .type "list", dict := none, data := .seq #[] c, slots := #[] })
  (hR : ∀ v h' tk, P (argBest bt (n - 1)) v → (∀ b o, b ∉ wr → b ≠ S → s.heap.get? b = some o → h'.get? b = some o) → R (.ok (.ret v)) { s with heap := h', toks := tk }) :
  codeAny (model prog w) A (.builtin "min.loop" ⟨[.ref I, .none, .ref S], []⟩) R s := by
 have hSw : S ∉ wr := fun h => hSf (W.sub _ h)
 have hname : (toString "min" ++ toString ".loop" : String) = "min.loop" := by decide
 refine codeAny_builtin F.entry_min_loop ?_
 rw [Around.under_plainId F.plain_min_loop _]
 show wpAny _ A.in1 (seqItems? (.ref S) >>= _) _ _ s
 refine wpAny_bind (wpAny_seqItems hS rfl ?_)
 show wpAny _ A.in1 (tryCatch (pyNext (.ref I)) _ >>= _) _ _ s
 refine wpAny_bind (wpAny_tryCatch (W.item 0 s _ _ hn hst fun v h' tk hP hst' hk' => ?_))
 have hS' := hk' S _ hSw hS
 show wpAny _ A.in1 (updateSeq S (fun _ => #[v, v]) >>= _) _ _ _
 refine wpAny_bind ?_
 refine wpAny_updateSeq hS' rfl ?_
 rw [hname]
 refine wpAny_pure ⟨plainId_quiet F.plain_min_loop _, min_loopB W bt hcmp S hSf hw0 hS0 _ 0 _ v _ rfl hn (fun b o e => (Heap.get?_update_other _ _ (fun h : S = b => by rw [← h, hS0] at e; cases e)).trans (hk' b o (fun hb => by rw [hw0 b hb] at e; cases e) (kb b o e))) (W.frame _ _ _ hst' fun b hbf o e => ?_) hP (Heap.get?_update_self _ hS' rfl) fun v' h'' tk'' hP' hk'' => ?_⟩
 ·exact (Heap.get?_update_other _ _ (fun h : S = b => hSf (by rw [h]; exact hbf))).trans e
 ·exact hR v' h'' tk'' hP' fun b o hbw hbS e => hk'' b o hbw hbS ((Heap.get?_update_other _ _ (Ne.symm hbS)).trans (hk' b o hbw e))
end
section
variable {prog : Program} {w : World} {A : Around} {E : Value → Shared → Prop} {s : Shared}
theorem min_walkB {x : Value} {Q : Value → Shared → Prop}
  (h : wpAny (model prog w) A.in1 (pyIter x) (fun it s₂ => ∃ I fp wr n P St bt b0, it = .ref I ∧ Walks prog w A.in1 I fp wr n P St ∧ St 0 s₂.heap ∧ (∀ b ∈ fp, b < s₂.heap.objs.size) ∧ 0 < n ∧ CmpB prog w A.in1 .Lt b0 P bt ∧ (∀ b ∈ wr, b0.get? b = none) ∧ Keeps b0 s₂.heap ∧
   ∀ v h' tk, P (argBest bt (n - 1)) v → (∀ b o, b ∉ wr → s₂.heap.get? b = some o → h'.get? b = some o) → Q v { s₂ with heap := h', toks := tk }) E s) :
  wpAny (model prog w) A (call (.builtin "min") [x]) Q E s := by
 have hname : (toString "min" ++ toString ".loop" : String) = "min.loop" := by decide
 refine call_function_tree F.kind_min F.plain_min F.entry_min (F.args_min1 _) ?_
 show wpAny _ A.in1 (Builtin.Builtins.bindParams "min" ["key", "default"] 0 ⟨[], []⟩ >>= _) _ _ s
 refine wpAny_bind (wpAny_of_eq (show Builtin.Builtins.bindParams "min" ["key", "default"] 0 ⟨[], []⟩ = pure [none, none] from rfl) ?_)
 refine wpAny_bind (wpAny_pure ?_)
 refine wpAny_bind (wpAny_mono h (fun it s₂ h₂ => ?_) fun _ _ e => e)
 obtain ⟨I, fp, wr, n, P, St, bt, b0, rfl, W, hst, hfp, hn, hcmp, hw0, kb, hQ⟩ := h₂
 refine wpAny_bind (wpAny_newObj_type ?_)
 have hSf : s₂.heap.objs.size ∉ fp := fun hm => Nat.lt_irrefl _ (hfp _ hm)
 rw [hname]
 refine wpAny_pure ⟨plainId_quiet F.plain_min_loop _, min_loop_firstB W bt hcmp s₂.heap.objs.size hSf hw0 (by
  cases e : b0.get? s₂.heap.objs.size with
  | none => rfl
  | some o => exact absurd (Heap.lt_size (kb _ _ e)) (Nat.lt_irrefl _)) hn (fun b o e => Heap.get?_push_of_some _ (kb b o e)) (W.frame _ _ _ hst fun b _ o e => Heap.get?_push_of_some _ e) (Heap.get?_push_size _ rfl) fun v h' tk hP hk => ?_⟩
 exact hQ v h' tk hP fun b o hbw e => hk b o hbw (Nat.ne_of_lt (Heap.lt_size e)) (Heap.get?_push_of_some _ e)
end
end
section
noncomputable def lexC (f : Str → Str → Bool) (g : Nat → Nat → Bool) : List Str → List Str → Bool
 | x :: xs, y :: ys => if x == y then lexC f g xs ys else f x y
 | xs, ys => g xs.length ys.length
noncomputable def sLt (x y : Str) : Bool := decide (x.cps.toList < y.cps.toList)
noncomputable def sGt (x y : Str) : Bool := decide (y.cps.toList < x.cps.toList)
noncomputable def nLt (m n : Nat) : Bool := decide (m < n)
noncomputable def nGt (m n : Nat) : Bool := decide (m > n)
theorem strs_get {vs : List Value} {xs : List Str} (h : StrsAre vs xs) : ∀ {k : Nat} {x : Str}, xs[k]? = some x → ∃ t, vs[k]? = some (.str x t) := by
 induction h with
 | nil => intro k x e; cases e
 | cons y u _ ih =>
  intro k x e
  cases k with
  | zero => cases e; exact ⟨_, rfl⟩
  | succ k => simpa using ih (k := k) (by simpa using e)
theorem strs_len {vs : List Value} {xs : List Str} (h : StrsAre vs xs) : vs.length = xs.length := by
 induction h with
 | nil => rfl
 | cons y u _ ih => simp [ih]
section
open SeqAt AutoSeq1 MeetsSeq MeetsSeq2 MeetsSeq3 SeqRoads2
theorem lex_loop (c : Int) (op : CmpOp) (f : Str → Str → Bool) (g : Nat → Nat → Bool) (l b : Addr) (xs ys : List Str) (items items2 : Array Value) (n n2 : Nat) (h1 : StrsAre items.toList xs) (h2 : StrsAre items2.toList ys)
  (hc : (c = 0 ∧ op = .Lt ∧ f = sLt ∧ g = nLt) ∨ (c = 4 ∧ op = .Gt ∧ f = sGt ∧ g = nGt))
  (hf : ∀ (prog : Program) (w : World) (A : Around) (E : Value → Shared → Prop) (s : Shared) x t y u (Q : Value → Shared → Prop), Q (.bool (f x y)) s → wpAny (model prog w) A (richCompare op (.str x t) (.str y u)) Q E s)
  (hg : ∀ m n k, k ≤ m → k ≤ n → g (m - k) (n - k) = g m n) (k : Nat) :
  ∀ i : Nat, items.size + 1 - i = k → i ≤ items.size → i ≤ items2.size → Meets (Builtin.«list.__eq__.loop» ⟨[.ref l, .ref b, rawInt i, rawInt c], []⟩)
   (fun A R s => s.heap.get? l = some { cls := .type "list", data := .seq items n } ∧ s.heap.get? b = some { cls := .type "list", data := .seq items2 n2 } ∧
    R (.ok (.ret (.bool (lexC f g (xs.drop i) (ys.drop i))))) s) := by
 have l1 : xs.length = items.size := by rw [← strs_len h1, Array.length_toList]
 have l2 : ys.length = items2.size := by rw [← strs_len h2, Array.length_toList]
 induction k with
 | zero => intro i hk hi1 hi2; exact absurd (Nat.le_of_sub_eq_zero hk) (Nat.not_le.mpr (Nat.lt_succ_of_le hi1))
 | succ k ih =>
  intro i hk hi1 hi2 prog w A R s h
  obtain ⟨hp, gg, d, tk, os⟩ := s; obtain ⟨hl, hb, h⟩ := h
  by_cases hlt : i < items.size ∧ i < items2.size
  ·obtain ⟨ha, hb'⟩ := hlt
   obtain ⟨x, hx⟩ : ∃ x, xs[i]? = some x := ⟨_, List.getElem?_eq_getElem (by lia)⟩
   obtain ⟨y, hy⟩ : ∃ y, ys[i]? = some y := ⟨_, List.getElem?_eq_getElem (by lia)⟩
   obtain ⟨t, ht⟩ := strs_get h1 hx
   obtain ⟨u, hu⟩ := strs_get h2 hy
   rw [Array.getElem?_toList] at ht hu
   have hi1 : items[((i : Nat) : Int).toNat]? = some (.str x t) := ht
   have hi2 : items2[((i : Nat) : Int).toNat]? = some (.str y u) := hu
   have d1 : xs.drop i = x :: xs.drop (i + 1) := by rw [List.drop_eq_getElem_cons (by lia)]; rw [List.getElem?_eq_getElem (by lia)] at hx; cases hx; rfl
   have d2 : ys.drop i = y :: ys.drop (i + 1) := by rw [List.drop_eq_getElem_cons (by lia)]; rw [List.getElem?_eq_getElem (by lia)] at hy; cases hy; rfl
   rw [d1, d2, lexC] at h
   rcases hc with ⟨rfl, rfl, rfl, rfl⟩ | ⟨rfl, rfl, rfl, rfl⟩
   all_goals (
    repeat (first | with_reducible apply wpAny_loadPart' hl | with_reducible apply wpAny_loadPart' hb | walk_at "q")
    rw [hi1, hi2]
    refine wpAny_bind (eqBool_str ?_)
    cases hxy : x == y with
    | true =>
     rw [hxy, if_pos rfl] at h
     repeat walk_at "q"
     have hc : ((i : Int) + 1) = ((i + 1 : Nat) : Int) := by push_cast; rfl
     rw [hc]
     exact ⟨plainId_quiet plain_eq_loop _, codeAny_builtin entry_eq_loop (by
      rw [Around.under_plainId plain_eq_loop _]
      exact ih (i + 1) (nN hk) (by lia) (by lia) prog w A R _ ⟨hl, hb, h⟩)⟩
    | false =>
     rw [hxy, if_neg (by decide)] at h
     repeat (first | with_reducible apply wpAny_loadPart' hl | with_reducible apply wpAny_loadPart' hb | walk_at "q")
     rw [hi1, hi2]
     refine wpAny_bind (hf prog w _ _ _ x t y u _ ?_)
     repeat walk_at "q"
     exact h)
  ·have e : lexC f g (xs.drop i) (ys.drop i) = g items.size items2.size := by
    rw [← hg items.size items2.size i hi1 hi2]
    by_cases he : i = items.size
    ·rw [List.drop_of_length_le (l := xs) (by lia)]
     show g 0 _ = _
     rw [List.length_drop, l2, he, Nat.sub_self]
    ·rw [List.drop_of_length_le (l := ys) (by lia)]
     have : ∀ a : List Str, lexC f g a [] = g a.length 0 := fun a => by cases a <;> rfl
     rw [this, List.length_drop, l1, show items2.size - i = 0 by lia]
   rw [e] at h
   have hn : items[((i : Nat) : Int).toNat]? = none ∨ items2[((i : Nat) : Int).toNat]? = none := by
    by_cases he : i = items.size
    ·left; simp [he]
    ·right; simp; lia
   rcases hc with ⟨rfl, rfl, rfl, rfl⟩ | ⟨rfl, rfl, rfl, rfl⟩
   all_goals (
    repeat (first | with_reducible apply wpAny_loadPart' hl | with_reducible apply wpAny_loadPart' hb | walk_at "q")
    rcases hn with hn | hn
    ·rw [hn]
     repeat (first | with_reducible apply wpAny_loadPart' hl | with_reducible apply wpAny_loadPart' hb | walk_at "q")
     exact h
    ·rw [hn]
     cases items[((i : Nat) : Int).toNat]?
     all_goals (
      repeat (first | with_reducible apply wpAny_loadPart' hl | with_reducible apply wpAny_loadPart' hb | walk_at "q")
      exact h))
end
end
section
section
open SeqAt AutoSeq1 MeetsSeq MeetsSeq2 MeetsSeq3 SeqRoads2
theorem rc_str_lt (prog : Program) (w : World) (A : Around) (E : Value → Shared → Prop) (s : Shared) (x : Str) (t : Tok) (y : Str) (u : Tok) (Q : Value → Shared → Prop) (h : Q (.bool (sLt x y)) s) : wpAny (model prog w) A (richCompare .Lt (.str x t) (.str y u)) Q E s :=
 richCompare_gives (typeIs_str _ _ _) (typeIs_str _ _ _) F.slot_str_lt F.entry_str_lt (F.args_str_lt_2 _ _) (gives_str_lt x y t u) (by intro h; cases h) h
theorem rc_str_gt (prog : Program) (w : World) (A : Around) (E : Value → Shared → Prop) (s : Shared) (x : Str) (t : Tok) (y : Str) (u : Tok) (Q : Value → Shared → Prop) (h : Q (.bool (sGt x y)) s) : wpAny (model prog w) A (richCompare .Gt (.str x t) (.str y u)) Q E s :=
 richCompare_gives (typeIs_str _ _ _) (typeIs_str _ _ _) F.slot_str_gt F.entry_str_gt (F.args_str_gt_2 _ _) (gives_str_gt x y t u) (by intro h; cases h) h
theorem list_lt_meets (l b : Addr) (xs ys : List Str) (items items2 : Array Value) (n n2 : Nat) (h1 : StrsAre items.toList xs) (h2 : StrsAre items2.toList ys) :
  Meets (Builtin.«list.__lt__» ⟨[.ref l, .ref b], []⟩)
   (fun A R s => s.heap.get? l = some { cls := .type "list", data := .seq items n } ∧ s.heap.get? b = some { cls := .type "list", data := .seq items2 n2 } ∧
    R (.ok (.ret (.bool (lexC sLt nLt xs ys)))) s) := by
 intro prog w A R s h
 obtain ⟨hp, g, d, tk, os⟩ := s; obtain ⟨hl, hb, h⟩ := h
 have f3 := AutoSeq1.sub_list_list
 repeat (first | with_reducible apply wpAny_loadPart' hl | with_reducible apply wpAny_loadPart' hb | walk_at "q")
 exact ⟨plainId_quiet plain_eq_loop _, codeAny_builtin entry_eq_loop (by
  rw [Around.under_plainId plain_eq_loop _]
  exact lex_loop 0 .Lt sLt nLt l b xs ys items items2 n n2 h1 h2 (.inl ⟨rfl, rfl, rfl, rfl⟩) rc_str_lt (fun m n k hm hn => by simp only [nLt, decide_eq_decide]; first | exact Nat.sub_lt_sub_iff_right (by assumption) | lia) _ 0 rfl (Nat.zero_le _) (Nat.zero_le _) prog w A R _ ⟨hl, hb, h⟩)⟩
theorem list_gt_meets (l b : Addr) (xs ys : List Str) (items items2 : Array Value) (n n2 : Nat) (h1 : StrsAre items.toList xs) (h2 : StrsAre items2.toList ys) :
  Meets (Builtin.«list.__gt__» ⟨[.ref l, .ref b], []⟩)
   (fun A R s => s.heap.get? l = some { cls := .type "list", data := .seq items n } ∧ s.heap.get? b = some { cls := .type "list", data := .seq items2 n2 } ∧
    R (.ok (.ret (.bool (lexC sGt nGt xs ys)))) s) := by
 intro prog w A R s h
 obtain ⟨hp, g, d, tk, os⟩ := s; obtain ⟨hl, hb, h⟩ := h
 have f3 := AutoSeq1.sub_list_list
 repeat (first | with_reducible apply wpAny_loadPart' hl | with_reducible apply wpAny_loadPart' hb | walk_at "q")
 exact ⟨plainId_quiet plain_eq_loop _, codeAny_builtin entry_eq_loop (by
  rw [Around.under_plainId plain_eq_loop _]
  exact lex_loop 4 .Gt sGt nGt l b xs ys items items2 n n2 h1 h2 (.inr ⟨rfl, rfl, rfl, rfl⟩) rc_str_gt (fun m n k hm hn => by simp only [nGt, decide_eq_decide]; first | exact Nat.sub_lt_sub_iff_right (by assumption) | lia) _ 0 rfl (Nat.zero_le _) (Nat.zero_le _) prog w A R _ ⟨hl, hb, h⟩)⟩
end
section
variable {prog : Program} {w : World} {A : Around} {E : Value → Shared → Prop} {s : Shared} {h₀ : Heap} {L : Addr} {m : Str → Option Value}
theorem rc_list_lt {l b : Addr} {xs ys : List Str} {its its2 : Array Value} {n n2 : Nat} {Q : Value → Shared → Prop} (hu : A.units < cLine) (hl : s.heap.get? l = some (listOf its n)) (hb : s.heap.get? b = some (listOf its2 n2)) (h1 : StrsAre its.toList xs) (h2 : StrsAre its2.toList ys)
  (h : Q (.bool (lexC sLt nLt xs ys)) s) : wpAny (model prog w) A (richCompare .Lt (.ref l) (.ref b)) Q E s :=
 richCompare_meets_room ⟨_, hl, rfl⟩ ⟨_, hb, rfl⟩ F.slot_list_lt F.entry_list_lt (F.args_list_lt_2 _ _) (list_lt_meets l b xs ys its its2 n n2 h1 h2) ⟨hl, hb, (by intro h; cases h), h⟩ hu
theorem rc_list_gt {l b : Addr} {xs ys : List Str} {its its2 : Array Value} {n n2 : Nat} {Q : Value → Shared → Prop} (hu : A.units < cLine) (hl : s.heap.get? l = some (listOf its n)) (hb : s.heap.get? b = some (listOf its2 n2)) (h1 : StrsAre its.toList xs) (h2 : StrsAre its2.toList ys)
  (h : Q (.bool (lexC sGt nGt xs ys)) s) : wpAny (model prog w) A (richCompare .Gt (.ref l) (.ref b)) Q E s :=
 richCompare_meets_room ⟨_, hl, rfl⟩ ⟨_, hb, rfl⟩ F.slot_list_gt F.entry_list_gt (F.args_list_gt_2 _ _) (list_gt_meets l b xs ys its its2 n n2 h1 h2) ⟨hl, hb, (by intro h; cases h), h⟩ hu
end
end
section
section
variable {prog : Program} {w : World} {A : Around} {E : Value → Shared → Prop} {s : Shared}
theorem min_twoZ {D a b : Addr} {xs ys : List Str} {its its2 : Array Value} {k n n2 : Nat} {Q : Value → Shared → Prop} (hh : A.handled = none) (hu : A.units + 1 < cLine) (hD : s.heap.get? D = some (listOf #[.ref a, .ref b] k))
  (ha : s.heap.get? a = some (listOf its n)) (hb : s.heap.get? b = some (listOf its2 n2)) (h1 : StrsAre its.toList xs) (h2 : StrsAre its2.toList ys)
  (h : ∀ h' tk, Keeps s.heap h' → Q (.ref (if lexC sLt nLt ys xs = true then b else a)) { s with heap := h', toks := tk }) :
  wpAny (model prog w) A (call (.builtin "min") [.ref D]) Q E s := by
 have hl : s.heap.IsList D #[.ref a, .ref b] := ⟨_, hD, rfl, _, rfl⟩
 have hlt : D < s.heap.objs.size := Heap.lt_size hD
 refine min_walkB (wpAny_pyIter_list hl ?_)
 refine ⟨s.heap.objs.size, _, _, 2, _, _, fun i j => lexC sLt nLt (if i = 0 then xs else ys) (if j = 0 then xs else ys), s.heap, rfl, Walks.list (A := A.in1) hh s.heap.objs.size D (Nat.ne_of_lt hlt) #[.ref a, .ref b], ⟨⟨_, Heap.get?_push_size _ rfl, rfl, rfl⟩, hl.push _⟩, ?_, by decide, ?_, ?_, ?_, ?_⟩
 ·intro x hx
  show x < (s.heap.push _).objs.size
  rw [Heap.size_push]
  rcases List.mem_cons.mp hx with rfl | hx
  ·exact Nat.lt_succ_self _
  ·rw [List.mem_singleton.mp hx]; exact Nat.lt_succ_of_lt hlt
 ·intro i j vi vj s' Q' E' kb hi hj hq
  have key : ∀ (i : Nat) (v : Value), (#[Value.ref a, .ref b] : Array Value)[i]? = some v → ∃ c its n, v = .ref c ∧ s.heap.get? c = some (listOf its n) ∧ StrsAre its.toList (if i = 0 then xs else ys) := by
   intro i v hv
   match i with
   | 0 => exact ⟨a, its, n, by cases hv; rfl, ha, h1⟩
   | 1 => exact ⟨b, its2, n2, by cases hv; rfl, hb, h2⟩
   | i + 2 => simp at hv
  obtain ⟨c1, t1, n1, rfl, g1, z1⟩ := key i vi hi
  obtain ⟨c2, t2, n2', rfl, g2, z2⟩ := key j vj hj
  exact rc_list_lt hu (kb _ _ g1) (kb _ _ g2) z1 z2 (hq s'.heap s'.toks fun _ _ e => e)
 ·intro x hx
  rw [List.mem_singleton.mp hx]
  cases e : s.heap.get? s.heap.objs.size with
  | none => rfl
  | some o => exact absurd (Heap.lt_size e) (Nat.lt_irrefl _)
 ·exact fun b o e => Heap.get?_push_of_some _ e
 ·intro v h' tk hP hk
  have e : v = .ref (if lexC sLt nLt ys xs = true then b else a) := by
   have hP' : (#[Value.ref a, .ref b] : Array Value)[argBest (fun i j => lexC sLt nLt (if i = 0 then xs else ys) (if j = 0 then xs else ys)) (2 - 1)]? = some v := hP
   simp only [argBest] at hP'
   by_cases hc : lexC sLt nLt ys xs = true
   ·simp [hc] at hP' ⊢; exact hP'.symm
   ·simp [hc] at hP' ⊢; exact hP'.symm
  rw [e]
  exact h h' tk fun x o e => hk x o (fun hm => by rw [List.mem_singleton.mp hm] at e; exact absurd (Heap.lt_size e) (Nat.lt_irrefl _)) (Heap.get?_push_of_some _ e)
theorem max_twoZ {D a b : Addr} {xs ys : List Str} {its its2 : Array Value} {k n n2 : Nat} {Q : Value → Shared → Prop} (hh : A.handled = none) (hu : A.units + 1 < cLine) (hD : s.heap.get? D = some (listOf #[.ref a, .ref b] k))
  (ha : s.heap.get? a = some (listOf its n)) (hb : s.heap.get? b = some (listOf its2 n2)) (h1 : StrsAre its.toList xs) (h2 : StrsAre its2.toList ys)
  (h : ∀ h' tk, Keeps s.heap h' → Q (.ref (if lexC sGt nGt ys xs = true then b else a)) { s with heap := h', toks := tk }) :
  wpAny (model prog w) A (call (.builtin "max") [.ref D]) Q E s := by
 have hl : s.heap.IsList D #[.ref a, .ref b] := ⟨_, hD, rfl, _, rfl⟩
 have hlt : D < s.heap.objs.size := Heap.lt_size hD
 refine max_walkB (wpAny_pyIter_list hl ?_)
 refine ⟨s.heap.objs.size, _, _, 2, _, _, fun i j => lexC sGt nGt (if i = 0 then xs else ys) (if j = 0 then xs else ys), s.heap, rfl, Walks.list (A := A.in1) hh s.heap.objs.size D (Nat.ne_of_lt hlt) #[.ref a, .ref b], ⟨⟨_, Heap.get?_push_size _ rfl, rfl, rfl⟩, hl.push _⟩, ?_, by decide, ?_, ?_, ?_, ?_⟩
 ·intro x hx
  show x < (s.heap.push _).objs.size
  rw [Heap.size_push]
  rcases List.mem_cons.mp hx with rfl | hx
  ·exact Nat.lt_succ_self _
  ·rw [List.mem_singleton.mp hx]; exact Nat.lt_succ_of_lt hlt
 ·intro i j vi vj s' Q' E' kb hi hj hq
  have key : ∀ (i : Nat) (v : Value), (#[Value.ref a, .ref b] : Array Value)[i]? = some v → ∃ c its n, v = .ref c ∧ s.heap.get? c = some (listOf its n) ∧ StrsAre its.toList (if i = 0 then xs else ys) := by
   intro i v hv
   match i with
   | 0 => exact ⟨a, its, n, by cases hv; rfl, ha, h1⟩
   | 1 => exact ⟨b, its2, n2, by cases hv; rfl, hb, h2⟩
   | i + 2 => simp at hv
  obtain ⟨c1, t1, n1, rfl, g1, z1⟩ := key i vi hi
  obtain ⟨c2, t2, n2', rfl, g2, z2⟩ := key j vj hj
  exact rc_list_gt hu (kb _ _ g1) (kb _ _ g2) z1 z2 (hq s'.heap s'.toks fun _ _ e => e)
 ·intro x hx
  rw [List.mem_singleton.mp hx]
  cases e : s.heap.get? s.heap.objs.size with
  | none => rfl
  | some o => exact absurd (Heap.lt_size e) (Nat.lt_irrefl _)
 ·exact fun b o e => Heap.get?_push_of_some _ e
 ·intro v h' tk hP hk
  have e : v = .ref (if lexC sGt nGt ys xs = true then b else a) := by
   have hP' : (#[Value.ref a, .ref b] : Array Value)[argBest (fun i j => lexC sGt nGt (if i = 0 then xs else ys) (if j = 0 then xs else ys)) (2 - 1)]? = some v := hP
   simp only [argBest] at hP'
   by_cases hc : lexC sGt nGt ys xs = true
   ·simp [hc] at hP' ⊢; exact hP'.symm
   ·simp [hc] at hP' ⊢; exact hP'.symm
  rw [e]
  exact h h' tk fun x o e => hk x o (fun hm => by rw [List.mem_singleton.mp hm] at e; exact absurd (Heap.lt_size e) (Nat.lt_irrefl _)) (Heap.get?_push_of_some _ e)
end
end
section
section
variable {prog : Program} {w : World} {A : Around} {s : Shared} {env : Env} {h₀ : Heap}
noncomputable def FEnd2 (h₀ : Heap) (L : Addr) (J : Nat → (Str → Option Value) → List (Addr × Obj) → Prop) (i : Nat) (a b : Addr × Obj) (s₁ : Shared) (Q : Flow → Shared → Prop) (f : Flow) (s₂ : Shared) : Prop :=
 match f with
 | .ret v => Q (.ret v) s₂
 | .brk => Q .next s₂
 | _ => ∃ m' news' h' tk, s₂ = { s₁ with heap := h', toks := tk } ∧ Fr h₀ L h' m' ∧ News h₀ L h' (a :: b :: news') ∧ AllNe a.1 news' ∧ AllNe b.1 news' ∧ J i m' news'
theorem fnext2 {L : Addr} {J : Nat → (Str → Option Value) → List (Addr × Obj) → Prop} {i : Nat} {a b : Addr × Obj} {s₁ : Shared} {Q : Flow → Shared → Prop} {m' : Str → Option Value} {news' news'' : List (Addr × Obj)} {h' : Heap} {tk : Nat}
  (F : Fr h₀ L h' m') (N : News h₀ L h' news'') (j : J i m' news') (sub : ∀ p ∈ a :: b :: news', p ∈ news'') (ne : AllNe a.1 news') (ne2 : AllNe b.1 news') : FEnd2 h₀ L J i a b s₁ Q .next { s₁ with heap := h', toks := tk } := ⟨m', news', h', tk, rfl, F, fun p hp => N p (sub p hp), ne, ne2, j⟩
inductive EnJ (l : Addr) (its : Array Value) (J : Nat → (Str → Option Value) → List (Addr × Obj) → Prop) (s : Shared) (h₀ : Heap) (env : Env) (k : Nat) (s' : Shared) : Prop
 | mk (h' tk m' news' i : _) (e0 : s' = { s with heap := h', toks := tk }) (e1 : ((∃ old, IsEnum h' (s.heap.objs.size + 1) s.heap.objs.size ((i : Nat) : Int) old) ∧ h'.IsListIter s.heap.objs.size l i ∧ h'.IsList l its)) (e2 : Fr h₀ env.locals h' m') (e3 : News h₀ env.locals h' news') (e4 : AllNe (s.heap.objs.size + 1) news') (e5 : AllNe s.heap.objs.size news') (e6 : J i m' news') (e7 : i ≤ its.size) (e8 : k = its.size + 1 - i) : EnJ l its J s h₀ env k s'
end
noncomputable section
namespace cfor_enum
noncomputable def zP (prog : Program) (w : World) (A : Around) (s : Shared) (env : Env) (h₀ : Heap) (xn yn : Str) (px py : Pos) (kk : Nat) (pos : Pos) (body : List Stmt) (l : Addr) (its : Array Value) (n : Nat) (m₀ : Str → Option Value) (news₀ : List (Addr × Obj)) (Q : Flow → Shared → Prop) (J : Nat → (Str → Option Value) → List (Addr × Obj) → Prop) : Prop := ∀ (L : Addr) (hL : env.locals = L) (hh : A.handled = none) (hl : s.heap.get? l = some (listOf its n)) (F : Fr h₀ L s.heap m₀) (N : News h₀ L s.heap news₀) (hj : J 0 m₀ news₀) (keep : (∃ o, h₀.get? l = some o) ∨ ∀ i m news, J i m news → (l, listOf its n) ∈ news) (turn : ∀ i x t oe ot e it m news h tk, its[i]? = some x → J i m news → AllNe e news → AllNe it news → @Ne Nat e it → Fr h₀ L h m → News h₀ L h ((e, oe) :: (it, ot) :: news) →
   wpAny (model prog w) A (assign (.Name xn px) env (.int i t)) (fun _ s₂ => wpAny (model prog w) A (assign (.Name yn py) env x) (fun _ s₃ => wpAny (model prog w) A (execs body env) (FEnd2 h₀ L J (i + 1) (e, oe) (it, ot) { s with heap := h, toks := tk } Q) (fun _ _ => False) s₃) (fun _ _ => False) s₂) (fun _ _ => False) { s with heap := h, toks := tk }) (done : ∀ m news h tk, J its.size m news → Fr h₀ L h m → News h₀ L h news → Q .next { s with heap := h, toks := tk }), wpAny (model prog w) A (call (.type "enumerate") [.ref l]) (fun xv s₁ => wpAny (model prog w) A (pyIter xv) (fun it s₂ => codeAny (model prog w) A (.forLoop (.Tuple [.Name xn px, .Name yn py] kk pos) it body [] env) (fun r s' => match r with | .ok f => Q f s' | .error e => cameBackBy (model prog w) A env (fun _ _ => False) e s') s₂) (fun _ _ => False) s₁) (fun _ _ => False) s
noncomputable def zT (x : YY) : Prop := zP (x 14 0) (x 1 1) (x 15 2) (x 5 3) (x 16 4) (x 2 5) (x 12 6) (x 12 7) (x 24 8) (x 24 9) (x 0 10) (x 24 11) (x 18 12) (x 0 13) (x 29 14) (x 0 15) (x 6 16) (x 7 17) (x 22 18) (x 23 19)
noncomputable def zC := pickY zT
@[irreducible] def prog : Program := zC 14 0
@[irreducible] def w : World := zC 1 1
@[irreducible] def A : Around := zC 15 2
@[irreducible] def s : Shared := zC 5 3
@[irreducible] def env : Env := zC 16 4
@[irreducible] def h₀ : Heap := zC 2 5
def xn : Str := zC 12 6
def yn : Str := zC 12 7
def px : Pos := zC 24 8
def py : Pos := zC 24 9
def kk : Nat := zC 0 10
def pos : Pos := zC 24 11
@[irreducible] def body : List Stmt := zC 18 12
def l : Addr := zC 0 13
@[irreducible] def its : Array Value := zC 29 14
def n : Nat := zC 0 15
def m₀ : Str → Option Value := zC 6 16
@[irreducible] def news₀ : List (Addr × Obj) := zC 7 17
def Q : Flow → Shared → Prop := zC 22 18
def J : Nat → (Str → Option Value) → List (Addr × Obj) → Prop := zC 23 19
theorem zA (h : zP prog w A s env h₀ xn yn px py kk pos body l its n m₀ news₀ Q J) : ∀ y, zT y := by with_unfolding_all exact pickY_spec zT h
theorem zK : zP prog w A s env h₀ xn yn px py kk pos body l its n m₀ news₀ Q J := by
 intro L hL hh hl F N hj keep turn done
 subst hL
 refine call_enumerate_1 hl fun h₁ he hit hz k₁ => ?_
 refine wpAny_pyIter_enum he ?_
 have hlt : l < s.heap.objs.size := Heap.lt_size hl
 have hee : s.heap.objs.size + 1 ≠ s.heap.objs.size := Nat.succ_ne_self _
 have W := WalksT.enumerate (prog := prog) (w := w) (A := A) hh (s.heap.objs.size + 1) s.heap.objs.size l hee (Nat.ne_of_lt (Nat.lt_succ_of_lt hlt)) (Nat.ne_of_lt hlt) its
 have hLlt := F.ns.lt
 have hLe : env.locals ≠ s.heap.objs.size + 1 := Nat.ne_of_lt (Nat.lt_succ_of_lt hLlt)
 have hLi : env.locals ≠ s.heap.objs.size := Nat.ne_of_lt hLlt
 have hI0 : h₀.get? s.heap.objs.size = none := next_is_new F
 have hE0 : h₀.get? (s.heap.objs.size + 1) = none := by
  cases e : h₀.get? (s.heap.objs.size + 1) with
  | none => rfl
  | some o => exact absurd (Heap.lt_size (F.keep _ _ e)) (Nat.not_lt.mpr (Nat.le_succ _))
 have ne₀ : ∀ c, s.heap.objs.size ≤ c → AllNe c news₀ := fun c hc => allNe_iff.mpr fun p hp => Nat.ne_of_lt (Nat.lt_of_lt_of_le (Heap.lt_size (N p hp).1) hc)
 refine codeAny_forLoop_any
  (EnJ l its J s h₀ env) ?_ (its.size + 1)
  ⟨h₁, s.toks, m₀, news₀, 0, rfl, ⟨⟨_, he⟩, hit, ⟨_, k₁ _ _ hl, rfl, _, rfl⟩⟩, fr_keeps F k₁, news_keeps N k₁, ne₀ _ (Nat.le_succ _), ne₀ _ (Nat.le_refl _), hj, Nat.zero_le _, rfl⟩
 rintro k s' ⟨h', tk, m', news', i, rfl, hst', F', N', hne', hni', hJ, hi, rfl⟩
 have next : ∀ h₁ : Heap, (∀ b o, b ∉ [s.heap.objs.size + 1, s.heap.objs.size] → h'.get? b = some o → h₁.get? b = some o) → Fr h₀ env.locals h₁ m' ∧ News h₀ env.locals h₁ news' := fun h₁ hk₁ =>
  ⟨⟨F'.ns.at' fun o e => hk₁ _ o (by simp [hLe, hLi]) e, fun b o e => hk₁ b o (fun hb => by
    rcases List.mem_cons.mp hb with rfl | hb
    ·rw [hE0] at e; cases e
    ·rw [List.mem_singleton.mp hb, hI0] at e; cases e) (F'.keep b o e), F'.above⟩,
   fun p hp => ⟨hk₁ _ _ (by simp [allNe_iff.mp hne' p hp, allNe_iff.mp hni' p hp]) (N' p hp).1, (N' p hp).2⟩⟩
 have ff : ∀ e s'', False → notedBy (model prog w) A env (fun e s' => cameBackBy (model prog w) A env (fun _ _ => False) e s') e s'' := fun _ _ x => x.elim
 by_cases hlt : i < its.size
 ·refine W.item i _ _ _ hlt hst' fun T vals h₁ tk₁ hP _ hT hM hk₁ => ?_
  obtain ⟨t, x, hx, rfl⟩ := hP
  refine wpAny_mono (W.go _ _ _ i T _ _ (fun _ _ => False) hM fun h₂ hst₂ hk₂ => ?_) (fun _ _ x => x) ff
  have hT₂ : h₂.IsTuple T #[.int i t, x] := hT.at fun o e => hk₂ T o (W.apart _ _ _ hM) e
  obtain ⟨F₂, N₂⟩ := next h₂ fun b o hb e => hk₂ b o hb (hk₁ b o hb e)
  refine wpAny_mono (wpAny_assign_Tuple hh hT₂ rfl rfl fun h₃ hk₃ => ?_) (fun _ s₂ h₂ => h₂) ff
  have K₃ : Keeps h₂ h₃ := fun b o e => hk₃ b o (Nat.ne_of_lt (Heap.lt_size e)) e
  have hst₃ := W.frame _ _ h₃ hst₂ fun b _ o e => K₃ b o e
  obtain ⟨⟨old, hoe⟩, ⟨ot, hot, hot'⟩, hl₃⟩ := id hst₃
  obtain ⟨oe, hoe, hof⟩ : ∃ oe, h₃.get? (s.heap.objs.size + 1) = some oe ∧ ∀ h : Heap, h.get? (s.heap.objs.size + 1) = some oe → IsEnum h (s.heap.objs.size + 1) s.heap.objs.size (((i + 1 : Nat)) : Int) old := ⟨_, hoe, fun _ e => e⟩
  have F₃ := fr_keeps F₂ K₃
  have N₃ : News h₀ env.locals h₃ ((s.heap.objs.size + 1, oe) :: (s.heap.objs.size, ot) :: news') := fun p hp => by
   rcases List.mem_cons.mp hp with rfl | hp
   ·exact ⟨hoe, Ne.symm hLe, hE0⟩
   ·rcases List.mem_cons.mp hp with rfl | hp
    ·exact ⟨hot, Ne.symm hLi, hI0⟩
    ·exact news_keeps N₂ K₃ p hp
  show wpAny _ _ (assignInOrder [assign (.Name xn px) env, assign (.Name yn py) env] [.int i t, x]) _ _ _
  unfold assignInOrder
  refine wpAny_bind (wpAny_holding (wpAny_mono (turn i x t oe ot _ _ m' news' h₃ _ hx hJ hne' hni' hee F₃ N₃) (fun _ s₂ hh₂ => ?_) fun _ _ x => x.elim))
  unfold assignInOrder
  refine wpAny_bind (wpAny_holding (wpAny_mono hh₂ (fun _ s₃ hh₃ => ?_) fun _ _ x => x.elim))
  unfold assignInOrder
  refine wpAny_pure ?_
  refine wpAny_mono hh₃ (fun f s₄ hh₄ => ?_) ff
  have fin : (∃ m₅ news₅ h₅ tk₅, s₄ = { s with heap := h₅, toks := tk₅ } ∧ Fr h₀ env.locals h₅ m₅ ∧ News h₀ env.locals h₅ ((s.heap.objs.size + 1, oe) :: (s.heap.objs.size, ot) :: news₅) ∧ AllNe (s.heap.objs.size + 1) news₅ ∧ AllNe s.heap.objs.size news₅ ∧ J (i + 1) m₅ news₅) →
    ∃ m, m < its.size + 1 - i ∧ EnJ l its J s h₀ env m s₄ := by
   rintro ⟨m₅, news₅, h₅, tk₅, rfl, F₅, N₅, ne₅, ni₅, hJ₅⟩
   refine ⟨its.size + 1 - (i + 1), by first | exact nM (by assumption) | lia, h₅, tk₅, m₅, news₅, i + 1, rfl, ⟨⟨old, hof _ (N₅ _ (.head _)).1⟩, ⟨ot, (N₅ _ (.tail _ (.head _))).1, hot'⟩, ?_⟩, F₅, fun p hp => N₅ p (.tail _ (.tail _ hp)), ne₅, ni₅, hJ₅, hlt, rfl⟩
   rcases keep with ⟨o, ho⟩ | hm
   ·obtain ⟨o', ho', r⟩ := hl₃
    have := F₃.keep l o ho
    rw [ho'] at this; cases this
    exact ⟨_, F₅.keep l _ ho, r⟩
   ·exact ⟨_, (N₅ _ (.tail _ (.tail _ (hm _ _ _ hJ₅)))).1, rfl, _, rfl⟩
  cases f with
  | ret v => exact hh₄
  | brk => exact hh₄
  | next => exact fin hh₄
  | cont => exact fin hh₄
 ·have hin : i = its.size := by lia
  subst hin
  refine W.done _ _ _ hst' fun h₁ tk₁ hk₁ => wpAny_execs_nil ?_
  obtain ⟨F₁, N₁⟩ := next h₁ hk₁
  exact done m' news' h₁ tk₁ hJ F₁ N₁
end cfor_enum
end
section
variable {prog : Program} {w : World} {A : Around} {s : Shared} {env : Env} {h₀ : Heap}
theorem for_enum {xn yn : Str} {px py : Pos} {kk : Nat} {pos : Pos} {body : List Stmt} {l : Addr} {its : Array Value} {n : Nat} {m₀ : Str → Option Value} {news₀ : List (Addr × Obj)} {Q : Flow → Shared → Prop} {L : Addr}
  (hL : env.locals = L) (hh : A.handled = none) (hl : s.heap.get? l = some (listOf its n))
  (J : Nat → (Str → Option Value) → List (Addr × Obj) → Prop)
  (F : Fr h₀ L s.heap m₀) (N : News h₀ L s.heap news₀) (hj : J 0 m₀ news₀)
  (keep : (∃ o, h₀.get? l = some o) ∨ ∀ i m news, J i m news → (l, listOf its n) ∈ news)
  (turn : ∀ i x t oe ot e it m news h tk, its[i]? = some x → J i m news → AllNe e news → AllNe it news → @Ne Nat e it → Fr h₀ L h m → News h₀ L h ((e, oe) :: (it, ot) :: news) →
   wpAny (model prog w) A (assign (.Name xn px) env (.int i t)) (fun _ s₂ => wpAny (model prog w) A (assign (.Name yn py) env x) (fun _ s₃ => wpAny (model prog w) A (execs body env) (FEnd2 h₀ L J (i + 1) (e, oe) (it, ot) { s with heap := h, toks := tk } Q) (fun _ _ => False) s₃) (fun _ _ => False) s₂) (fun _ _ => False) { s with heap := h, toks := tk })
  (done : ∀ m news h tk, J its.size m news → Fr h₀ L h m → News h₀ L h news → Q .next { s with heap := h, toks := tk }) :
  wpAny (model prog w) A (call (.type "enumerate") [.ref l]) (fun xv s₁ => wpAny (model prog w) A (pyIter xv) (fun it s₂ => codeAny (model prog w) A (.forLoop (.Tuple [.Name xn px, .Name yn py] kk pos) it body [] env) (fun r s' => match r with | .ok f => Q f s' | .error e => cameBackBy (model prog w) A env (fun _ _ => False) e s') s₂) (fun _ _ => False) s₁) (fun _ _ => False) s := by
 exact cfor_enum.zA cfor_enum.zK (putY [⟨14, prog⟩, ⟨1, w⟩, ⟨15, A⟩, ⟨5, s⟩, ⟨16, env⟩, ⟨2, h₀⟩, ⟨12, xn⟩, ⟨12, yn⟩, ⟨24, px⟩, ⟨24, py⟩, ⟨0, kk⟩, ⟨24, pos⟩, ⟨18, body⟩, ⟨0, l⟩, ⟨29, its⟩, ⟨0, n⟩, ⟨6, m₀⟩, ⟨7, news₀⟩, ⟨22, Q⟩, ⟨23, J⟩]) L hL hh hl F N hj keep turn done
end
end
section
noncomputable def cpre : List Str → List Str → List Str
 | x :: xs, y :: ys => if x == y then x :: cpre xs ys else []
 | _, _ => []
theorem cpre_comm : ∀ xs ys : List Str, cpre xs ys = cpre ys xs
 | [], [] => rfl
 | [], _ :: _ => rfl
 | _ :: _, [] => rfl
 | x :: xs, y :: ys => by
  unfold cpre
  by_cases e : x = y
  ·subst e; simp [cpre_comm xs ys]
  ·have h1 : (x == y) = false := by simpa using e
   have h2 : (y == x) = false := by simpa using Ne.symm e
   rw [h1, h2]; rfl
noncomputable def GoodZ (a b : List Str) : Prop := ∀ i, i < a.length → a.take i = b.take i → i < b.length
theorem GoodZ.refl (a : List Str) : GoodZ a a := fun _ h _ => h
theorem GoodZ.cons {x : Str} {a b : List Str} (g : GoodZ a b) : GoodZ (x :: a) (x :: b) := fun i h e => by
 cases i with
 | zero => simp
 | succ i =>
  have := g i (by simpa using h) (by simpa using e)
  simpa using this
theorem GoodZ.nil (b : List Str) : GoodZ [] b := fun i h _ => by simp at h
theorem GoodZ.diff {x y : Str} {a b : List Str} (n : x ≠ y) : GoodZ (x :: a) (y :: b) := fun i h e => by
 cases i with
 | zero => simp
 | succ i => simp only [List.take_succ_cons, List.cons.injEq] at e; exact absurd e.1 n
theorem s_tri {x y : Str} (n : x ≠ y) : (sLt y x = false ∧ sGt y x = true) ∨ (sLt y x = true ∧ sGt y x = false) := by
 have ne : x.cps.toList ≠ y.cps.toList := fun e => n (by
  obtain ⟨⟨a⟩⟩ := x; obtain ⟨⟨b⟩⟩ := y
  simp only at e; subst e; rfl)
 by_cases h : y.cps.toList < x.cps.toList
 ·right; exact ⟨by simpa [sLt] using h, by simpa [sGt] using List.lt_asymm h⟩
 ·left
  refine ⟨by simpa [sLt] using h, ?_⟩
  by_cases h2 : x.cps.toList < y.cps.toList
  ·simpa [sGt] using h2
  ·exact absurd (List.le_antisymm (List.not_lt.mp h) (List.not_lt.mp h2)) ne
theorem lex_tri : ∀ X Y : List Str, (X = Y ∧ lexC sLt nLt Y X = false ∧ lexC sGt nGt Y X = false) ∨ (lexC sLt nLt Y X = false ∧ lexC sGt nGt Y X = true ∧ GoodZ X Y) ∨ (lexC sLt nLt Y X = true ∧ lexC sGt nGt Y X = false ∧ GoodZ Y X)
 | [], [] => .inl ⟨rfl, rfl, rfl⟩
 | [], y :: ys => .inr (.inl ⟨by simp [lexC, nLt], by simp [lexC, nGt], .nil _⟩)
 | x :: xs, [] => .inr (.inr ⟨by simp [lexC, nLt], by simp [lexC, nGt], .nil _⟩)
 | x :: xs, y :: ys => by
  by_cases e : x = y
  ·subst e
   rcases lex_tri xs ys with ⟨h1, h2, h3⟩ | ⟨h1, h2, h3⟩ | ⟨h1, h2, h3⟩
   ·exact .inl ⟨by rw [h1], by simp [lexC, h2], by simp [lexC, h3]⟩
   ·exact .inr (.inl ⟨by simp [lexC, h1], by simp [lexC, h2], h3.cons⟩)
   ·exact .inr (.inr ⟨by simp [lexC, h1], by simp [lexC, h2], h3.cons⟩)
  ·have h2 : (y == x) = false := by simpa using Ne.symm e
   rcases s_tri e with ⟨a, b⟩ | ⟨a, b⟩
   ·exact .inr (.inl ⟨by simp [lexC, h2, a], by simp [lexC, h2, b], .diff e⟩)
   ·exact .inr (.inr ⟨by simp [lexC, h2, a], by simp [lexC, h2, b], .diff (Ne.symm e)⟩)
theorem lex_pick {X Y X1 X2 : List Str} (h1 : X1 = if lexC sLt nLt Y X = true then Y else X) (h2 : X2 = if lexC sGt nGt Y X = true then Y else X) : GoodZ X1 X2 ∧ cpre X1 X2 = cpre X Y := by
 rcases lex_tri X Y with ⟨a, b, c⟩ | ⟨a, b, c⟩ | ⟨a, b, c⟩
 ·subst a; rw [if_neg (by simp [b])] at h1; rw [if_neg (by simp [c])] at h2; subst h1; subst h2; exact ⟨.refl _, rfl⟩
 ·rw [if_neg (by simp [a])] at h1; rw [if_pos b] at h2; subst h1; subst h2; exact ⟨c, rfl⟩
 ·rw [if_pos a] at h1; rw [if_neg (by simp [b])] at h2; subst h1; subst h2; exact ⟨c, cpre_comm _ _⟩
theorem cpre_stop {a b : List Str} : ∀ {i : Nat} {x y : Str}, a.take i = b.take i → a[i]? = some x → b[i]? = some y → x ≠ y → cpre a b = a.take i := by
 induction a generalizing b with
 | nil => intro i x y _ h; simp at h
 | cons u us ih =>
  intro i x y h hx hy n
  cases b with
  | nil => simp at hy
  | cons v vs =>
   cases i with
   | zero =>
    simp only [List.getElem?_cons_zero, Option.some.injEq] at hx hy
    subst hx; subst hy
    have h2 : (u == v) = false := by simpa using n
    simp [cpre, h2]
   | succ i =>
    simp only [List.take_succ_cons, List.cons.injEq] at h
    obtain ⟨rfl, h⟩ := h
    have := ih h (by simpa using hx) (by simpa using hy) n
    simp [cpre, this]
theorem cpre_all {a b : List Str} : a.take a.length = b.take a.length → cpre a b = a := by
 induction a generalizing b with
 | nil => intro _; cases b <;> rfl
 | cons u us ih =>
  intro h
  cases b with
  | nil => simp at h
  | cons v vs =>
   simp only [List.length_cons, List.take_succ_cons, List.cons.injEq] at h
   obtain ⟨rfl, h⟩ := h
   simp [cpre, ih h]
theorem take_next {a b : List Str} {i : Nat} {x : Str} (h : a.take i = b.take i) (hx : a[i]? = some x) (hy : b[i]? = some x) : a.take (i + 1) = b.take (i + 1) := by
 rw [List.take_add_one, List.take_add_one, h, hx, hy]
end
section
section
variable {prog : Program} {w : World} {A : Around} {E : Value → Shared → Prop} {s : Shared} {h₀ : Heap} {L : Addr} {m : Str → Option Value}
theorem min_led {D a b : Addr} {v1 v2 : List Value} {X Y : List Str} {nn : Nat} {news : List (Addr × Obj)} {Q : Value → Shared → Prop} (hh : A.handled = none) (RR : Room A (nn + 1)) (F : Fr h₀ L s.heap m) (N : News h₀ L s.heap news)
  (ha : (a, PyProof.Rows.LCg.lst v1) ∈ news) (hb : (b, PyProof.Rows.LCg.lst v2) ∈ news) (hD : (D, PyProof.Rows.LCg.lst [.ref a, .ref b]) ∈ news) (s1 : StrsAre v1 X) (s2 : StrsAre v2 Y)
  (h : ∀ h' tk A1 u1 X1, Fr h₀ L h' m → News h₀ L h' ((A1, PyProof.Rows.LCg.lst u1) :: news) → StrsAre u1 X1 → X1 = (if lexC sLt nLt Y X = true then Y else X) → Q (.ref A1) { s with heap := h', toks := tk }) :
  wpAny (model prog w) A (call (.builtin "min") [.ref D]) Q E s := by
 refine min_twoZ (its := v1.toArray) (its2 := v2.toArray) (xs := X) (ys := Y) hh (Room.unitsLt (Room.in1 RR)) (N _ hD).1 (N _ ha).1 (N _ hb).1 s1 s2 fun h' tk K => ?_
 have F' := fr_keeps F K
 have N' := news_keeps N K
 by_cases c : lexC sLt nLt Y X = true
 ·rw [if_pos c]
  refine h h' tk b v2 Y F' (fun p hp => ?_) s2 (by rw [if_pos c])
  rcases List.mem_cons.mp hp with rfl | hp
  ·exact N' _ hb
  ·exact N' _ hp
 ·rw [if_neg c]
  refine h h' tk a v1 X F' (fun p hp => ?_) s1 (by rw [if_neg c])
  rcases List.mem_cons.mp hp with rfl | hp
  ·exact N' _ ha
  ·exact N' _ hp
theorem max_led {D a b : Addr} {v1 v2 : List Value} {X Y : List Str} {nn : Nat} {news : List (Addr × Obj)} {Q : Value → Shared → Prop} (hh : A.handled = none) (RR : Room A (nn + 1)) (F : Fr h₀ L s.heap m) (N : News h₀ L s.heap news)
  (ha : (a, PyProof.Rows.LCg.lst v1) ∈ news) (hb : (b, PyProof.Rows.LCg.lst v2) ∈ news) (hD : (D, PyProof.Rows.LCg.lst [.ref a, .ref b]) ∈ news) (s1 : StrsAre v1 X) (s2 : StrsAre v2 Y)
  (h : ∀ h' tk A1 u1 X1, Fr h₀ L h' m → News h₀ L h' ((A1, PyProof.Rows.LCg.lst u1) :: news) → StrsAre u1 X1 → X1 = (if lexC sGt nGt Y X = true then Y else X) → Q (.ref A1) { s with heap := h', toks := tk }) :
  wpAny (model prog w) A (call (.builtin "max") [.ref D]) Q E s := by
 refine max_twoZ (its := v1.toArray) (its2 := v2.toArray) (xs := X) (ys := Y) hh (Room.unitsLt (Room.in1 RR)) (N _ hD).1 (N _ ha).1 (N _ hb).1 s1 s2 fun h' tk K => ?_
 have F' := fr_keeps F K
 have N' := news_keeps N K
 by_cases c : lexC sGt nGt Y X = true
 ·rw [if_pos c]
  refine h h' tk b v2 Y F' (fun p hp => ?_) s2 (by rw [if_pos c])
  rcases List.mem_cons.mp hp with rfl | hp
  ·exact N' _ hb
  ·exact N' _ hp
 ·rw [if_neg c]
  refine h h' tk a v1 X F' (fun p hp => ?_) s1 (by rw [if_neg c])
  rcases List.mem_cons.mp hp with rfl | hp
  ·exact N' _ ha
  ·exact N' _ hp
end
end
section
theorem news_sub {h₀ h : Heap} {L : Addr} {news news' : List (Addr × Obj)} (N : News h₀ L h news) (sub : ∀ q ∈ news', q ∈ news) : News h₀ L h news' := fun q hq => N q (sub q hq)
theorem cut_exec {M : Model} {A : Around} {E : Value → Shared → Prop} {s : Shared} {t : Sem Flow} {P Q : Flow → Shared → Prop} (h1 : wpAny M A t P E s) (h2 : ∀ f s', P f s' → Q f s') : wpAny M A t Q E s := wpAny_mono h1 h2 fun _ _ x => x
inductive CmnEnd (h₀ : Heap) (L cs : Addr) (osep : Obj) (X : List Str) (s : Shared) (f : Flow) (s' : Shared) : Prop
 | mk (e0 : f = .next) (h tk m D v k : _) (e1 : s' = { s with heap := h, toks := tk }) (e2 : Fr h₀ L h m) (e3 : News h₀ L h [(D, listOf v.toArray k), (cs, osep)]) (e4 : m (Str.ofString "common") = some (.ref D)) (e5 : m (Str.ofString "isabs") = some (.bool true)) (e6 : StrsAre v X) : CmnEnd h₀ L cs osep X s f s'
theorem cmn_end {h₀ : Heap} {L cs : Addr} {osep : Obj} {X : List Str} {s : Shared} {h : Heap} {tk : Nat} {m : Str → Option Value} {D : Addr} {v : List Value} {k : Nat} {news : List (Addr × Obj)} (F : Fr h₀ L h m) (N : News h₀ L h news)
  (sub : ∀ q ∈ [(D, listOf v.toArray k), (cs, osep)], q ∈ news) (hm : m (Str.ofString "common") = some (.ref D)) (hi : m (Str.ofString "isabs") = some (.bool true)) (sv : StrsAre v X) :
  CmnEnd h₀ L cs osep X s .next { s with heap := h, toks := tk } := ⟨rfl, h, tk, m, D, v, k, rfl, F, news_sub N sub, hm, hi, sv⟩
theorem strs_take {v : List Value} {X : List Str} (h : StrsAre v X) : ∀ n, StrsAre (v.take n) (X.take n) := by
 induction h with
 | nil => intro n; rw [List.take_nil, List.take_nil]; exact .nil
 | cons y t _ ih =>
  intro n
  cases n with
  | zero => exact .nil
  | succ n => exact .cons y t (ih n)
end
section
section
variable {prog : Program} {w : World} {A : Around} {s : Shared} {env : Env} {h₀ : Heap}
theorem iter_range {target : Expr} {body : List Stmt} {r : Addr} {a b : Int} {t u v : Tok} {n : Nat} {m₀ : Str → Option Value} {news₀ : List (Addr × Obj)} {Q : Flow → Shared → Prop} {L : Addr}
  (hL : env.locals = L) (hh : A.handled = none) (hr : IsRange s.heap r a b 1 t u v) (hsm : Builtin.Range.small a b 1 = true) (hn : Builtin.Range.rangeSize a b 1 = ((n : Nat) : Int))
  (J : Nat → (Str → Option Value) → List (Addr × Obj) → Prop)
  (F : Fr h₀ L s.heap m₀) (N : News h₀ L s.heap news₀) (hj : J 0 m₀ news₀)
  (hgo : ∀ I (s' : Shared) v (Q' : Unit → Shared → Prop), Q' () s' → wpAny (model prog w) A (letOwnedTupleGo target (.ref I) v) Q' (fun _ _ => False) s')
  (turn : ∀ i t I oI m news h tk, i < n → J i m news → AllNe I news → (∀ p ∈ news₀, p.1 < I) → Fr h₀ L h m → News h₀ L h ((I, oI) :: news) →
   wpAny (model prog w) A (assign target env (.int (a + (i : Int)) t)) (fun _ s₂ => wpAny (model prog w) A (execs body env) (FEnd h₀ L J (i + 1) (I, oI) { s with heap := h, toks := tk } Q) (fun _ _ => False) s₂) (fun _ _ => False) { s with heap := h, toks := tk })
  (done : ∀ m news h tk, J n m news → Fr h₀ L h m → News h₀ L h news → Q .next { s with heap := h, toks := tk }) :
  wpAny (model prog w) A (pyIter (.ref r)) (fun it s₂ => codeAny (model prog w) A (.forLoop target it body [] env) (fun r s' => match r with | .ok f => Q f s' | .error e => cameBackBy (model prog w) A env (fun _ _ => False) e s') s₂) (fun _ _ => False) s := by
 subst hL
 refine wpAny_pyIter_range hr hsm ?_
 have W := LCg.range_walks (prog := prog) (w := w) (A := A) (I := s.heap.objs.size) hh a n
 refine for_walk (s := { s with heap := s.heap.push _ }) W (fun i h st => ⟨_, st⟩) ?_ (.head _) (next_is_new F) (fun i s' v Q' st q => hgo _ s' v Q' q) J (by
   show IsRangeIter _ _ _ _ _; rw [hn]; simpa using Heap.get?_push_size _ rfl) (F.push _)
  (fun p hp => ⟨Heap.get?_push_of_some _ (N p hp).1, (N p hp).2⟩) (allNe_iff.mpr fun p hp => Nat.ne_of_lt (Heap.lt_size (N p hp).1)) hj ?_ ?_ done
 ·intro hm
  exact absurd F.ns.lt (List.mem_singleton.mp hm ▸ Nat.lt_irrefl _)
 ·intro b hb hbI
  exact absurd (List.mem_singleton.mp hb) hbI
 ·intro i v oI m news h tk hi hP hJ hne' F' N'
  obtain ⟨t, rfl⟩ := hP
  exact turn i t _ oI m news h tk hi hJ hne' (fun p hp => Heap.lt_size (N p hp).1) F' N'
end
section
open PyProof.Rows.LCg
variable {prog : Program} {w : World} {A : Around} {E : Value → Shared → Prop} {s : Shared} {h₀ : Heap} {L : Addr} {m : Str → Option Value} {env : Env}
theorem compRest_inv {elt : Expr} {x : Str} {scope : Scope} {cl : List (Str × Addr)} {S : List (Addr × Obj) → Prop} {P : Nat → Value → Prop} {Fin : List Value → List (Addr × Obj) → Prop} {n : Nat} {news₀ : List (Addr × Obj)}
  (J : Nat → List Value → List (Addr × Obj) → Prop) (j0 : J 0 [] news₀)
  (turn : ∀ i v ys news I oI C oC D m₂ h tk (E' : Value → Shared → Prop), i < n → P i v → J i ys news → NsObj oC m₂ → m₂ x = some v → Fr h₀ L h m → News h₀ L h ((I, oI) :: (C, oC) :: (D, lst ys) :: news) → Off3 I C D news → ((@Ne Nat I C) ∧ (@Ne Nat I D) ∧ (@Ne Nat C D)) →
   wpAny (model prog w) A (eval elt (compEnvC scope cl C env)) (CompEnd h₀ L m { s with heap := h, toks := tk } I oI C oC D (lst ys) S (fun y news' => J (i + 1) (ys ++ [y]) news')) E' { s with heap := h, toks := tk })
  (fin : ∀ ys news, J n ys news → Fin ys news) : CompRest prog w A h₀ L m env elt x scope cl s S P Fin n 0 [] news₀ := by
 have key : ∀ k i ys news, i + k = n → J i ys news → CompRest prog w A h₀ L m env elt x scope cl s S P Fin k i ys news := by
  intro k
  induction k with
  | zero =>
   rintro i ys news hi hJ
   rw [Nat.add_zero] at hi
   exact CompRest.zero (fin _ _ (hi ▸ hJ))
  | succ k ih =>
   rintro i ys news hi hJ
   refine CompRest.succ ?_
   intro v I oI C oC D m₂ h tk E' hv hC hm F N off ne
   refine wpAny_mono (turn i v ys news I oI C oC D m₂ h tk E' (by lia) hv hJ hC hm F N off ne) (fun y s' te => ?_) fun _ _ e => e
   obtain ⟨h', tk', news', rfl, F', N', off', hS', hJ'⟩ := te
   exact ⟨h', tk', news', rfl, F', N', off', hS', ih (i + 1) _ _ (by lia) hJ'⟩
 exact key n 0 [] news₀ (Nat.zero_add _) j0
end
inductive All2 {α β : Type} (R : α → β → Prop) : List α → List β → Prop
 | nil : All2 R [] []
 | cons (a : α) (b : β) (as : List α) (bs : List β) : R a b → All2 R as bs → All2 R (a :: as) (b :: bs)
namespace All2
variable {α β : Type} {R R' : α → β → Prop} {as : List α} {bs : List β}
theorem length (h : All2 R as bs) : as.length = bs.length := by
 induction h with
 | nil => rfl
 | cons _ _ _ _ _ _ ih => simp [ih]
theorem mono (h : All2 R as bs) (k : ∀ a b, R a b → R' a b) : All2 R' as bs := by
 induction h with
 | nil => exact .nil
 | cons a b _ _ r _ ih => exact .cons _ _ _ _ (k a b r) ih
theorem append {as' : List α} {bs' : List β} (h : All2 R as bs) (h' : All2 R as' bs') : All2 R (as ++ as') (bs ++ bs') := by
 induction h with
 | nil => exact h'
 | cons a b _ _ r _ ih => exact .cons _ _ _ _ r ih
theorem snoc {a : α} {b : β} (h : All2 R as bs) (r : R a b) : All2 R (as ++ [a]) (bs ++ [b]) := h.append (.cons _ _ _ _ r .nil)
theorem getL (h : All2 R as bs) : ∀ {k : Nat} {a : α}, as[k]? = some a → ∃ b, bs[k]? = some b ∧ R a b := by
 induction h with
 | nil => intro k a e; simp at e
 | cons a b _ _ r _ ih =>
  intro k a' e
  cases k with
  | zero => simp at e; subst e; exact ⟨b, rfl, r⟩
  | succ k => simpa using ih (by simpa using e)
theorem getR (h : All2 R as bs) : ∀ {k : Nat} {b : β}, bs[k]? = some b → ∃ a, as[k]? = some a ∧ R a b := by
 induction h with
 | nil => intro k a e; simp at e
 | cons a b _ _ r _ ih =>
  intro k a' e
  cases k with
  | zero => simp at e; subst e; exact ⟨a, rfl, r⟩
  | succ k => simpa using ih (by simpa using e)
theorem lefts {p : α → Prop} (h : All2 R as bs) (k : ∀ a b, R a b → p a) : ∀ a ∈ as, p a := by
 intro a ha
 obtain ⟨i, hi⟩ := List.mem_iff_getElem?.mp ha
 obtain ⟨b, _, r⟩ := h.getL hi
 exact k _ _ r
end All2
noncomputable def t3 (x : Int × Int × Int) (ta tb tc : Tok) : Obj := { cls := .type "tuple", data := .seq #[.int x.1 ta, .int x.2.1 tb, .int x.2.2 tc] }
noncomputable def IsT3 (led : List (Addr × Obj)) (v : Value) (x : Int × Int × Int) : Prop := ∃ a ta tb tc, v = .ref a ∧ (a, t3 x ta tb tc) ∈ led
abbrev T3s (led : List (Addr × Obj)) (vs : List Value) (xs : List (Int × Int × Int)) : Prop := All2 (IsT3 led) vs xs
theorem IsT3.mono {led led' : List (Addr × Obj)} {v : Value} {x : Int × Int × Int} (h : IsT3 led v x) (k : ∀ p ∈ led, p ∈ led') : IsT3 led' v x := by obtain ⟨a, ta, tb, tc, e, hm⟩ := h; exact ⟨a, ta, tb, tc, e, k _ hm⟩
theorem T3s.mono {led led' : List (Addr × Obj)} {vs : List Value} {xs : List (Int × Int × Int)} (h : T3s led vs xs) (k : ∀ p ∈ led, p ∈ led') : T3s led' vs xs := All2.mono h fun _ _ r => r.mono k
noncomputable def IsLs (led : List (Addr × Obj)) (v : Value) (xs : List Str) : Prop := ∃ a its n, v = .ref a ∧ (a, listOf its n) ∈ led ∧ StrsAre its.toList xs
abbrev Lss (led : List (Addr × Obj)) (vs : List Value) (xs : List (List Str)) : Prop := All2 (IsLs led) vs xs
theorem IsLs.mono {led led' : List (Addr × Obj)} {v : Value} {x : List Str} (h : IsLs led v x) (k : ∀ p ∈ led, p ∈ led') : IsLs led' v x := by obtain ⟨a, ta, tb, e, hm, r⟩ := h; exact ⟨a, ta, tb, e, k _ hm, r⟩
theorem Lss.mono {led led' : List (Addr × Obj)} {vs : List Value} {xs : List (List Str)} (h : Lss led vs xs) (k : ∀ p ∈ led, p ∈ led') : Lss led' vs xs := All2.mono h fun _ _ r => r.mono k
theorem sub_add {led led' : List (Addr × Obj)} : ∀ p ∈ led, p ∈ led' ++ led := fun p hp => List.mem_append.mpr (.inr hp)
theorem sub_cons {q : Addr × Obj} {led : List (Addr × Obj)} : ∀ p ∈ led, p ∈ q :: led := fun p hp => .tail _ hp
theorem off1_of {D : Addr} : ∀ {l : List (Addr × Obj)}, (∀ p ∈ l, p.1 ≠ D) → PyProof.Rows.LCg.Off1 D l
 | [], _ => trivial
 | p :: _, h => ⟨h p (.head _), off1_of fun q hq => h q (.tail _ hq)⟩
theorem off1_mem {D : Addr} : ∀ {l : List (Addr × Obj)}, PyProof.Rows.LCg.Off1 D l → ∀ p ∈ l, p.1 ≠ D
 | [], _, _, h => nomatch h
 | _ :: _, x, p, h => by
  rcases List.mem_cons.mp h with rfl | h
  ·exact x.1
  ·exact off1_mem x.2 p h
theorem news_back {h₀ b0 h : Heap} {L D : Addr} {m : Str → Option Value} {news : List (Addr × Obj)} {o : Obj} (F : Fr h₀ L b0 m) (N : News h₀ L b0 news) (K : Keeps b0 h) (n : b0.get? D = none) (e : h.get? D = some o) :
  Fr h₀ L h m ∧ News h₀ L h ((D, o) :: news) ∧ PyProof.Rows.LCg.Off1 D news := by
 refine ⟨fr_keeps F K, fun p hp => ?_, off1_of fun p hp q => ?_⟩
 ·rcases List.mem_cons.mp hp with rfl | hp
  ·refine ⟨e, ?_, ?_⟩
   ·rintro rfl
    obtain ⟨o', _, _, ho, _⟩ := F.ns
    rw [n] at ho; cases ho
   ·cases e' : h₀.get? D with
    | none => rfl
    | some o' => rw [F.keep _ _ e'] at n; cases n
  ·exact news_keeps N K p hp
 ·have := (N p hp).1
  rw [q, n] at this; cases this
section
open PyProof.Rows.LCg
theorem comp_end_add {h₀ : Heap} {L I C D D6 : Addr} {m : Str → Option Value} {s₁ : Shared} {oI oC oD o6 : Obj} {S : List (Addr × Obj) → Prop} {rest : Value → List (Addr × Obj) → Prop} {h6 : Heap} {tk6 : Nat} {base add : List (Addr × Obj)}
  (F : Fr h₀ L h6 m) (N : News h₀ L h6 ((D6, o6) :: (I, oI) :: (C, oC) :: (D, oD) :: (base ++ add))) (o1 : Off1 D6 ((I, oI) :: (C, oC) :: (D, oD) :: (base ++ add))) (off : Off3 I C D (base ++ add)) (hS : S (base ++ (D6, o6) :: add)) (r : rest (.ref D6) (base ++ (D6, o6) :: add)) :
  CompEnd h₀ L m s₁ I oI C oC D oD S rest (.ref D6) { s₁ with heap := h6, toks := tk6 } := by
 have key : ∀ q ∈ base ++ (D6, o6) :: add, q = (D6, o6) ∨ q ∈ base ++ add := fun q hq => by
  rcases List.mem_append.mp hq with hq | hq
  ·exact .inr (List.mem_append.mpr (.inl hq))
  ·rcases List.mem_cons.mp hq with rfl | hq
   ·exact .inl rfl
   ·exact .inr (List.mem_append.mpr (.inr hq))
 refine CompEnd.intro F N (base ++ (D6, o6) :: add) (fun q hq => ?_) (Off3.of fun q hq => ?_) hS r
 ·rcases List.mem_cons.mp hq with rfl | hq
  ·exact .tail _ (.head _)
  ·rcases List.mem_cons.mp hq with rfl | hq
   ·exact .tail _ (.tail _ (.head _))
   ·rcases List.mem_cons.mp hq with rfl | hq
    ·exact .tail _ (.tail _ (.tail _ (.head _)))
    ·rcases key q hq with rfl | hq
     ·exact .head _
     ·exact .tail _ (.tail _ (.tail _ (.tail _ hq)))
 ·rcases key q hq with rfl | hq
  ·exact ⟨Ne.symm o1.1, Ne.symm o1.2.1, Ne.symm o1.2.2.1⟩
  ·exact off.mem q hq
end
theorem led_split {h₀ h : Heap} {L : Addr} (l1 l2 : List (Addr × Obj)) (N : News h₀ L h (l1 ++ l2)) : ∃ b, b = l1 ∧ News h₀ L h (b ++ l2) := ⟨l1, rfl, N⟩
theorem off1_app {D : Addr} {l r : List (Addr × Obj)} (h : PyProof.Rows.LCg.Off1 D l) (k : ∀ p ∈ r, p.1 ≠ D) : ∀ p ∈ l ++ r, p.1 ≠ D := fun p hp => by
 rcases List.mem_append.mp hp with hp | hp
 ·exact off1_mem h p hp
 ·exact k p hp
end
section
noncomputable def lexA (e lt : Nat → Bool) : List Nat → Bool
 | [] => false
 | i :: r => if e i = true then lexA e lt r else lt i
noncomputable def LtAt (A : Around) (s : Shared) (y x : Value) (b : Bool) : Prop :=
 ∀ (prog : Program) (w : World) (E : Value → Shared → Prop) (Q : Value → Shared → Prop), Q (.bool b) s → wpAny (model prog w) A (richCompare .Lt y x) Q E s
section
open SeqAt AutoSeq1 MeetsSeq MeetsSeq2 MeetsSeq3 SeqRoads2
theorem tuple_ltAt (l b : Addr) (items items2 : Array Value) (n n2 : Nat) (e lt : Nat → Bool) (hsz : items.size = items2.size) :
  Meets (Builtin.«tuple.__lt__» ⟨[.ref l, .ref b], []⟩)
   (fun A R s => s.heap.get? l = some { cls := .type "tuple", data := .seq items n } ∧ s.heap.get? b = some { cls := .type "tuple", data := .seq items2 n2 } ∧
    (∀ j (h1 : j < items.size) (h2 : j < items2.size), EqAt A.in1 s items[j] items2[j] (e j)) ∧ (∀ j (h1 : j < items.size) (h2 : j < items2.size), LtAt A.in1 s items[j] items2[j] (lt j)) ∧
    R (.ok (.ret (.bool (lexA e lt (List.range items.size))))) s) :=
 .of_wp fun prog w A R s h => by
  obtain ⟨hp, g, d, tk, os⟩ := s; obtain ⟨hl, hb, he, ht, h⟩ := h
  have f2 := AutoSeq1.sub_tuple_tuple
  have hZ : (items.toList.zip items2.toList).length = items.size := by simp [hsz]
  wp_walk using wpAny_loadPart' hl, wpAny_loadPart' hb, wpAny_forIn_list _ (fun rest b s' => b.1 = none ∧ s' = ⟨hp, g, d, tk, os⟩ ∧ ∃ i, rest = (items.toList.zip items2.toList).drop i ∧
   R (.ok (.ret (.bool (lexA e lt ((List.range items.size).drop i))))) ⟨hp, g, d, tk, os⟩) _
  case turn =>
   rintro ⟨y, x⟩ rest b s' ⟨hb', rfl, i, hz, hR⟩
   have hlt : i < (items.toList.zip items2.toList).length := by
    rcases Nat.lt_or_ge i (items.toList.zip items2.toList).length with h' | h'
    ·exact h'
    ·rw [List.drop_of_length_le h'] at hz; cases hz
   have h1 : i < items.size := hZ ▸ hlt
   have h2 : i < items2.size := hsz ▸ h1
   rw [List.drop_eq_getElem_cons hlt] at hz
   injection hz with hyx hrest
   have hy : y = items[i] := by have := congrArg Prod.fst hyx; simpa using this
   have hx : x = items2[i] := by have := congrArg Prod.snd hyx; simpa using this
   subst hy hx
   have hd : (List.range items.size).drop i = i :: (List.range items.size).drop (i + 1) := by simp [List.drop_eq_getElem_cons, h1]
   rw [hd] at hR
   simp only [lexA] at hR
   refine wpAny_bind (he i h1 h2 prog w _ _ ?_)
   cases hy : e i with
   | true =>
    rw [hy, if_pos rfl] at hR
    repeat walk_at "q"
    exact ⟨rfl, rfl, i + 1, hrest, by simpa using hR⟩
   | false =>
    rw [hy, if_neg (by decide)] at hR
    show wpAny _ _ (rule "tuple.compare.by-the-first-pair-that-differs" >>= fun _ => richCompare .Lt items[i] items2[i] >>= fun r => ret r >>= fun r => pure (ForInStep.done (some r, ()))) _ _ _
    refine wpAny_bind (wpAny_rule ?_)
    refine wpAny_bind (ht i h1 h2 prog w _ _ ?_)
    repeat walk_at "q"
    exact ⟨_, rfl, by simpa using hR⟩
  case fin =>
   rintro ⟨b1, b2⟩ s' ⟨hb', rfl, i, hz, hR⟩
   simp only at hb'
   subst hb'
   have hge : items.size ≤ i := by
    rcases Nat.lt_or_ge i (items.toList.zip items2.toList).length with h' | h'
    ·rw [List.drop_eq_getElem_cons h'] at hz; cases hz
    ·exact hZ ▸ h'
   rw [List.drop_of_length_le (by simpa using hge)] at hR
   repeat walk_at "q"
   exact ⟨_, rfl, by simpa [Builtin.Tuple.tupleCompareSizes, hsz, lexA] using hR⟩
  case h =>
   exact ⟨rfl, rfl, 0, rfl, by simpa using h⟩
end
noncomputable def lt3 (x y : Int × Int × Int) : Bool := if x.1 = y.1 then (if x.2.1 = y.2.1 then (if x.2.2 = y.2.2 then false else decide (x.2.2 < y.2.2)) else decide (x.2.1 < y.2.1)) else decide (x.1 < y.1)
theorem lt3_iff (x y : Int × Int × Int) : lt3 x y = true ↔ x.1 < y.1 ∨ (x.1 = y.1 ∧ (x.2.1 < y.2.1 ∨ (x.2.1 = y.2.1 ∧ x.2.2 < y.2.2))) := by
 unfold lt3
 by_cases h1 : x.1 = y.1
 ·rw [if_pos h1]
  by_cases h2 : x.2.1 = y.2.1
  ·rw [if_pos h2]
   by_cases h3 : x.2.2 = y.2.2
   ·rw [if_pos h3]; simp [h1, h2, h3]
   ·rw [if_neg h3]; simp [h1, h2]
  ·rw [if_neg h2]; simp [h1, h2]
 ·rw [if_neg h1]; simp [h1]
theorem lt3_not (x y : Int × Int × Int) : lt3 x y = false ↔ ¬ (x.1 < y.1 ∨ (x.1 = y.1 ∧ (x.2.1 < y.2.1 ∨ (x.2.1 = y.2.1 ∧ x.2.2 < y.2.2)))) := by
 rw [← lt3_iff]; simp
section
open SeqAt AutoSeq1 MeetsSeq MeetsSeq2 MeetsSeq3 SeqRoads2
variable {prog : Program} {w : World} {A : Around} {E : Value → Shared → Prop} {s : Shared}
theorem rc_t3_lt {l b : Addr} {x y : Int × Int × Int} {ta tb tc ua ub uc : Tok} {Q : Value → Shared → Prop} (hu : A.units < cLine) (hl : s.heap.get? l = some (t3 x ta tb tc)) (hb : s.heap.get? b = some (t3 y ua ub uc))
  (h : Q (.bool (lt3 x y)) s) : wpAny (model prog w) A (richCompare .Lt (.ref l) (.ref b)) Q E s := by
 refine richCompare_meets_room ⟨_, hl, rfl⟩ ⟨_, hb, rfl⟩ F.slot_tuple_lt F.entry_tuple_lt (F.args_tuple_lt_2 _ _)
  (tuple_ltAt l b #[.int x.1 ta, .int x.2.1 tb, .int x.2.2 tc] #[.int y.1 ua, .int y.2.1 ub, .int y.2.2 uc] 0 0 (fun j => if j = 0 then x.1 == y.1 else if j = 1 then x.2.1 == y.2.1 else x.2.2 == y.2.2) (fun j => if j = 0 then decide (x.1 < y.1) else if j = 1 then decide (x.2.1 < y.2.1) else decide (x.2.2 < y.2.2)) rfl)
  ⟨hl, hb, ?_, ?_, (by intro h; cases h), ?_⟩ hu
 ·intro j h1 h2
  have h1' : j < 3 := h1
  rcases (by lia : j = 0 ∨ j = 1 ∨ j = 2) with rfl | rfl | rfl
  ·exact EqAt.int_int _ _ _ _
  ·exact EqAt.int_int _ _ _ _
  ·exact EqAt.int_int _ _ _ _
 ·intro j h1 h2
  have h1' : j < 3 := h1
  rcases (by lia : j = 0 ∨ j = 1 ∨ j = 2) with rfl | rfl | rfl
  ·exact fun prog w E Q h => wpAny_lt_int h
  ·exact fun prog w E Q h => wpAny_lt_int h
  ·exact fun prog w E Q h => wpAny_lt_int h
 ·have e : lexA (fun j => if j = 0 then x.1 == y.1 else if j = 1 then x.2.1 == y.2.1 else x.2.2 == y.2.2) (fun j => if j = 0 then decide (x.1 < y.1) else if j = 1 then decide (x.2.1 < y.2.1) else decide (x.2.2 < y.2.2)) (List.range 3) = lt3 x y := by
   show (if (x.1 == y.1) = true then if (x.2.1 == y.2.1) = true then if (x.2.2 == y.2.2) = true then false else decide (x.2.2 < y.2.2) else decide (x.2.1 < y.2.1) else decide (x.1 < y.1)) = _
   simp only [beq_iff_eq, lt3]
  rw [show (#[Value.int x.1 ta, .int x.2.1 tb, .int x.2.2 tc] : Array Value).size = 3 from rfl, e]
  exact h
end
theorem lexT {a b c : Int} {P Q R : Prop} (h1 : a < b ∨ a = b ∧ P) (h2 : ¬ (c < b ∨ c = b ∧ Q)) (h : P → ¬ Q → ¬ R) : ¬ (c < a ∨ c = a ∧ R) := by
 have bc : b ≤ c := Int.not_lt.mp fun x => h2 (.inl x)
 rintro (x | ⟨rfl, r⟩)
 ·rcases h1 with y | ⟨rfl, p⟩
  ·exact Int.not_lt.mpr bc (Int.lt_trans x y)
  ·exact Int.not_lt.mpr bc x
 ·rcases h1 with y | ⟨rfl, p⟩
  ·exact Int.not_lt.mpr bc y
  ·exact h p (fun q => h2 (.inr ⟨rfl, q⟩)) r
theorem lexE {a b : Int} {P Q : Prop} (h1 : ¬ (a < b ∨ a = b ∧ P)) (h2 : ¬ (b < a ∨ b = a ∧ Q)) : a = b ∧ ¬ P ∧ ¬ Q := by
 have e : a = b := Int.le_antisymm (Int.not_lt.mp fun h => h2 (.inl h)) (Int.not_lt.mp fun h => h1 (.inl h))
 exact ⟨e, fun p => h1 (.inr ⟨e, p⟩), fun q => h2 (.inr ⟨e.symm, q⟩)⟩
theorem lt3_step {x y z : Int × Int × Int} (h1 : lt3 x y = true) (h2 : lt3 z y = false) : lt3 z x = false := by
 rw [lt3_iff] at h1; rw [lt3_not] at *
 exact lexT h1 h2 fun p q => lexT p q fun p q r => q (Int.lt_trans r p)
theorem lt3_self (x : Int × Int × Int) : lt3 x x = false := by simp [lt3]
theorem argBest_le (bt : Nat → Nat → Bool) : ∀ j, argBest bt j ≤ j
 | 0 => Nat.le_refl _
 | j + 1 => by
  simp only [argBest]
  split
  ·exact Nat.le_refl _
  ·exact Nat.le_succ_of_le (argBest_le bt j)
theorem argBest_min (f : Nat → Int × Int × Int) : ∀ j i, i ≤ j → lt3 (f i) (f (argBest (fun i j => lt3 (f i) (f j)) j)) = false
 | 0, i, h => by
  have : i = 0 := by lia
  subst this
  exact lt3_self _
 | j + 1, i, h => by
  simp only [argBest]
  split
  ·rename_i hb
   rcases Nat.lt_or_ge i (j + 1) with hi | hi
   ·have := argBest_min f j i (by lia)
    exact lt3_step hb this
   ·have : i = j + 1 := by lia
    subst this
    exact lt3_self _
  ·rename_i hb
   rcases Nat.lt_or_ge i (j + 1) with hi | hi
   ·exact argBest_min f j i (by lia)
   ·have : i = j + 1 := by lia
    subst this
    simpa using hb
noncomputable def IsLeast (xs : List (Int × Int × Int)) (x : Int × Int × Int) : Prop := x ∈ xs ∧ ∀ y ∈ xs, lt3 y x = false
section
variable {prog : Program} {w : World} {A : Around} {E : Value → Shared → Prop} {s : Shared}
theorem min_t3 {D : Addr} {vs : List Value} {xs : List (Int × Int × Int)} {k : Nat} {Q : Value → Shared → Prop} (hh : A.handled = none) (hu : A.units + 1 < cLine) (hD : s.heap.get? D = some (listOf vs.toArray k))
  (h3 : All2 (fun v x => ∃ a ta tb tc, v = .ref a ∧ s.heap.get? a = some (t3 x ta tb tc)) vs xs) (hn : 0 < vs.length)
  (h : ∀ (i : Nat) (v : Value) (x : Int × Int × Int) h' tk, vs[i]? = some v → xs[i]? = some x → IsLeast xs x → Keeps s.heap h' → Q v { s with heap := h', toks := tk }) :
  wpAny (model prog w) A (call (.builtin "min") [.ref D]) Q E s := by
 have hl : s.heap.IsList D vs.toArray := ⟨_, hD, rfl, _, rfl⟩
 have hlt : D < s.heap.objs.size := Heap.lt_size hD
 have el := h3.length
 let f : Nat → Int × Int × Int := fun i => xs.getD i (0, 0, 0)
 refine min_walkB (wpAny_pyIter_list hl ?_)
 refine ⟨s.heap.objs.size, _, _, vs.toArray.size, _, _, fun i j => lt3 (f i) (f j), s.heap, rfl, Walks.list (A := A.in1) hh s.heap.objs.size D (Nat.ne_of_lt hlt) vs.toArray, ⟨⟨_, Heap.get?_push_size _ rfl, rfl, rfl⟩, hl.push _⟩, ?_, by simpa using hn, ?_, ?_, ?_, ?_⟩
 ·intro x hx
  show x < (s.heap.push _).objs.size
  rw [Heap.size_push]
  rcases List.mem_cons.mp hx with rfl | hx
  ·exact Nat.lt_succ_self _
  ·rw [List.mem_singleton.mp hx]; exact Nat.lt_succ_of_lt hlt
 ·intro i j vi vj s' Q' E' kb hi hj hq
  have key : ∀ (i : Nat) (v : Value), vs.toArray[i]? = some v → ∃ a ta tb tc, v = .ref a ∧ s.heap.get? a = some (t3 (f i) ta tb tc) := by
   intro i v hv
   obtain ⟨x, hx, r⟩ := h3.getL (k := i) (a := v) (by simpa using hv)
   have : f i = x := by simp [f, List.getD, hx]
   rw [this]; exact r
  obtain ⟨c1, t1, t2, t3, rfl, g1⟩ := key i vi hi
  obtain ⟨c2, u1, u2, u3, rfl, g2⟩ := key j vj hj
  exact rc_t3_lt hu (kb _ _ g1) (kb _ _ g2) (hq s'.heap s'.toks fun _ _ e => e)
 ·intro x hx
  rw [List.mem_singleton.mp hx]
  cases e : s.heap.get? s.heap.objs.size with
  | none => rfl
  | some o => exact absurd (Heap.lt_size e) (Nat.lt_irrefl _)
 ·exact fun b o e => Heap.get?_push_of_some _ e
 ·intro v h' tk hP hk
  have hP' : vs.toArray[argBest (fun i j => lt3 (f i) (f j)) (vs.toArray.size - 1)]? = some v := hP
  rw [List.size_toArray] at hP'
  have hi : argBest (fun i j => lt3 (f i) (f j)) (vs.length - 1) < xs.length := by
   have := argBest_le (fun i j => lt3 (f i) (f j)) (vs.length - 1); lia
  have ex : xs[argBest (fun i j => lt3 (f i) (f j)) (vs.length - 1)]? = some (f (argBest (fun i j => lt3 (f i) (f j)) (vs.length - 1))) := by
   obtain ⟨b, hb⟩ : ∃ b, argBest (fun i j => lt3 (f i) (f j)) (vs.length - 1) = b := ⟨_, rfl⟩
   rw [hb] at hi ⊢
   simp [f, List.getD, List.getElem?_eq_getElem hi]
  refine h _ v _ h' tk (by simpa using hP') ex ⟨List.mem_of_getElem? ex, ?_⟩ fun x o e => hk x o (fun hm => by rw [List.mem_singleton.mp hm] at e; exact absurd (Heap.lt_size e) (Nat.lt_irrefl _)) (Heap.get?_push_of_some _ e)
  intro y hy
  obtain ⟨i, hi'⟩ := List.mem_iff_getElem?.mp hy
  have hlt := (List.getElem?_eq_some_iff.mp hi').1
  have : f i = y := by simp [f, List.getD, hi']
  rw [← this]
  exact argBest_min f (vs.length - 1) i (by lia)
theorem min_led3 {h₀ : Heap} {L D : Addr} {m : Str → Option Value} {its : Array Value} {xs : List (Int × Int × Int)} {k nn : Nat} {news led : List (Addr × Obj)} {Q : Value → Shared → Prop} (hh : A.handled = none) (RR : Room A (nn + 1)) (F : Fr h₀ L s.heap m) (N : News h₀ L s.heap news)
  (hD : (D, listOf its k) ∈ news) (hs : ∀ p ∈ led, p ∈ news) (T : T3s led its.toList xs) (hn : xs ≠ [])
  (h : ∀ h' tk a x ta tb tc, Fr h₀ L h' m → News h₀ L h' news → IsLeast xs x → (a, t3 x ta tb tc) ∈ led → Q (.ref a) { s with heap := h', toks := tk }) :
  wpAny (model prog w) A (call (.builtin "min") [.ref D]) Q E s := by
 refine min_t3 (vs := its.toList) hh (Room.unitsLt (Room.in1 RR)) (by rw [Array.toArray_toList]; exact (N _ hD).1) (All2.mono T fun v x ⟨a, ta, tb, tc, e, hm⟩ => ⟨a, ta, tb, tc, e, (N _ (hs _ hm)).1⟩)
  (by rw [All2.length T]; exact List.length_pos_iff.mpr hn) fun i v x h' tk hv hx hL K => ?_
 obtain ⟨x', hx', a, ta, tb, tc, rfl, hm⟩ := All2.getL T hv
 rw [hx] at hx'; cases hx'
 exact h h' tk a x ta tb tc (fr_keeps F K) (news_keeps N K) hL hm
end
end
section
theorem ga_set_none : typeLookup (.type "set") "__getattr__" = pure none := by rw [typeLookup_type, builtinLookup_eq_fast]; kernel_rfl
theorem ga_md_get : typeLookup (.type "method_descriptor") "__get__" = pure (some (.builtin "method_descriptor.__get__")) := by rw [typeLookup_type, builtinLookup_eq_fast]; kernel_rfl
theorem ga_md_set : typeLookup (.type "method_descriptor") "__set__" = pure none := by rw [typeLookup_type, builtinLookup_eq_fast]; kernel_rfl
theorem ga_md_delete : typeLookup (.type "method_descriptor") "__delete__" = pure none := by rw [typeLookup_type, builtinLookup_eq_fast]; kernel_rfl
theorem slot_md_get : Slot "method_descriptor" "__get__" "method_descriptor.__get__" :=
 .of (owner := "method_descriptor") (n := "__get__") (by rw [typeLookup_type, builtinLookup_eq_fast]; kernel_rfl) (by decide +kernel) (by decide +kernel) (by decide +kernel)
  (by first | exact .inl (by decide +kernel) | exact .inr (by decide +kernel)) (by rw [isSubtype_type]; kernel_rfl)
theorem entry_md_get : entryFor table "method_descriptor.__get__" = some Builtin.«method_descriptor.__get__» := entryFor_of_tree (by kernel_rfl)
theorem args_md_get (a b c : Value) : argsOk "method_descriptor.__get__" ⟨[a, b, c], []⟩ := by unfold argsOk; kernel_rfl
theorem told_contains : Manifest.toldItsClass.contains "set.__contains__" = false := by decide +kernel
theorem told_get : Manifest.toldItsClass.contains "dict.get" = false := by decide +kernel
theorem own_contains : ".".intercalate ("set.__contains__".cutAt '.').dropLast = "set" := by decide +kernel
theorem sub_set_selfZ : isSubtype (.type "set") (.type "set") = pure true := by rw [isSubtype_type]; kernel_rfl
theorem run_md_contains {M : Model} {A : Around} {E : Value → Shared → Prop} {s : Shared} {a : Addr} {o : Obj} {P : Fin → Shared → Prop} (hx : s.heap.get? a = some o) (hc : o.cls = .type "set") (h : P (.done (.ret (.ref s.heap.objs.size))) { s with heap := s.heap.push { cls := .type "builtin_function_or_method", data := .fields #[.builtin "set.__contains__", .ref a] } }) :
  wpAny M A (Builtin.«method_descriptor.__get__» ⟨[.builtin "set.__contains__", .ref a, .type "set"], []⟩) P E s := by
 unfold Builtin.«method_descriptor.__get__»
 refine wpAny_bind (wpAny_of_eq (a := (.builtin "set.__contains__", some (.ref a), some (.type "set"))) (by first | rfl | kernel_rfl) ?_)
 simp only [told_contains]
 have hT : s.TypeIs (.ref a) "set" := ⟨_, hx, hc⟩
 repeat (any_goals (first | walk_at "a" | walk_at "q"))
 rw [own_contains, sub_set_selfZ]
 repeat (any_goals (first | walk_at "a" | walk_at "q"))
theorem own_get : ".".intercalate ("dict.get".cutAt '.').dropLast = "dict" := by decide +kernel
theorem sub_dict_self : isSubtype (.type "dict") (.type "dict") = pure true := by rw [isSubtype_type]; kernel_rfl
theorem run_md_get {M : Model} {A : Around} {E : Value → Shared → Prop} {s : Shared} {a : Addr} {o : Obj} {P : Fin → Shared → Prop} (hx : s.heap.get? a = some o) (hc : o.cls = .type "dict") (h : P (.done (.ret (.ref s.heap.objs.size))) { s with heap := s.heap.push { cls := .type "builtin_function_or_method", data := .fields #[.builtin "dict.get", .ref a] } }) :
  wpAny M A (Builtin.«method_descriptor.__get__» ⟨[.builtin "dict.get", .ref a, .type "dict"], []⟩) P E s := by
 unfold Builtin.«method_descriptor.__get__»
 refine wpAny_bind (wpAny_of_eq (a := (.builtin "dict.get", some (.ref a), some (.type "dict"))) (by first | rfl | kernel_rfl) ?_)
 simp only [told_get]
 have hT : s.TypeIs (.ref a) "dict" := ⟨_, hx, hc⟩
 repeat (any_goals (first | walk_at "a" | walk_at "q"))
 rw [own_get, sub_dict_self]
 repeat (any_goals (first | walk_at "a" | walk_at "q"))
theorem ga_set_contains : typeLookup (.type "set") "__contains__" = pure (some (.builtin "set.__contains__")) := by rw [typeLookup_type, builtinLookup_eq_fast]; kernel_rfl
theorem ga_type_contains : typeOf (.builtin "set.__contains__") = pure (.type "method_descriptor") := by show builtinType _ = _; rw [builtinType_eq_fast]; kernel_rfl
theorem meets_ga_contains (a : Addr) (u : Tok) (sl : Array (Option Value)) (X : Data) (hX : ∃ x y z, X = .set x y z) :
  Meets (Builtin.«object.__getattribute__» ⟨[.ref a, .str "__contains__" u], []⟩) (fun A R s => s.heap.get? a = some { cls := .type "set", data := X, slots := sl } ∧ R (.ok (.ret (.ref s.heap.objs.size))) { s with heap := s.heap.push { cls := .type "builtin_function_or_method", data := .fields #[.builtin "set.__contains__", .ref a] } }) :=
 Meets.of_wp fun prog w A R s hs => by
  obtain ⟨x, y, z, rfl⟩ := hX
  obtain ⟨hp, g, d, tk, os⟩ := s
  obtain ⟨hx, hs⟩ := hs
  have hT : (⟨hp, g, d, tk, os⟩ : Shared).TypeIs (.ref a) "set" := ⟨_, hx, rfl⟩
  have f1 := ga_set_contains
  have f2 := ga_type_contains
  have f3 := ga_md_get
  have f4 := ga_md_set
  have f5 := ga_md_delete
  unfold Builtin.«object.__getattribute__»
  repeat (any_goals (first | walk_at "a" | ((with_reducible show wpAny _ _ (call (Value.builtin "method_descriptor.__get__") _) _ _ _); refine wpAny_call_entry slot_md_get ga_type_contains entry_md_get (run_md_contains hx rfl ?_) (args_md_get _ _ _)) | walk_at "q"))
  exact ⟨_, rfl, wpAny_pure ⟨_, rfl, hs⟩⟩
theorem ga_dict_get : typeLookup (.type "dict") "get" = pure (some (.builtin "dict.get")) := by rw [typeLookup_type, builtinLookup_eq_fast]; kernel_rfl
theorem ga_type_get : typeOf (.builtin "dict.get") = pure (.type "method_descriptor") := by show builtinType _ = _; rw [builtinType_eq_fast]; kernel_rfl
theorem meets_ga_get (a : Addr) (u : Tok) (sl : Array (Option Value)) (X : Data) (hX : ∃ x y, X = .dict x y) :
  Meets (Builtin.«object.__getattribute__» ⟨[.ref a, .str "get" u], []⟩) (fun A R s => s.heap.get? a = some { cls := .type "dict", data := X, slots := sl } ∧ R (.ok (.ret (.ref s.heap.objs.size))) { s with heap := s.heap.push { cls := .type "builtin_function_or_method", data := .fields #[.builtin "dict.get", .ref a] } }) :=
 Meets.of_wp fun prog w A R s hs => by
  obtain ⟨x, y, rfl⟩ := hX
  obtain ⟨hp, g, d, tk, os⟩ := s
  obtain ⟨hx, hs⟩ := hs
  have hT : (⟨hp, g, d, tk, os⟩ : Shared).TypeIs (.ref a) "dict" := ⟨_, hx, rfl⟩
  have f1 := ga_dict_get
  have f2 := ga_type_get
  have f3 := ga_md_get
  have f4 := ga_md_set
  have f5 := ga_md_delete
  unfold Builtin.«object.__getattribute__»
  repeat (any_goals (first | walk_at "a" | ((with_reducible show wpAny _ _ (call (Value.builtin "method_descriptor.__get__") _) _ _ _); refine wpAny_call_entry slot_md_get ga_type_get entry_md_get (run_md_get hx rfl ?_) (args_md_get _ _ _)) | walk_at "q"))
  exact ⟨_, rfl, wpAny_pure ⟨_, rfl, hs⟩⟩
theorem ga_dict_none : typeLookup (.type "dict") "__getattr__" = pure none := by rw [typeLookup_type, builtinLookup_eq_fast]; kernel_rfl
end
section
theorem getAttr_contains {prog : Program} {w : World} {A : Around} {E : Value → Shared → Prop} {s : Shared} {a : Addr} {X : Data} {sl : Array (Option Value)} {Q : Value → Shared → Prop} (hX : ∃ x y z, X = .set x y z) (hx : s.heap.get? a = some { cls := .type "set", data := X, slots := sl })
  (h : ∀ tk, Q (.ref s.heap.objs.size) { s with heap := s.heap.push { cls := .type "builtin_function_or_method", data := .fields #[.builtin "set.__contains__", .ref a] }, toks := tk }) : wpAny (model prog w) A (getAttr (.ref a) "__contains__" true) Q E s := by
 obtain ⟨hp, g, d, tk, os⟩ := s
 have hT : ∀ tk', (⟨hp, g, d, tk', os⟩ : Shared).TypeIs (.ref a) "set" := fun _ => ⟨_, hx, rfl⟩
 have f3 := F.slot_set_getattribute.lookup
 have f4 := F.slot_set_getattribute.bind (.ref a)
 have f5 := ga_set_none
 unfold getAttr getAttrBy
 repeat (any_goals (first | walk_at "a" | exact hT _ | ((with_reducible show wpAny _ _ (call (Value.builtin "set.__getattribute__") _ _) _ _ _); refine call_meets F.slot_set_getattribute (hT _) F.entry_set_ga (F.args_set_getattribute_2 _ _) (meets_ga_contains a _ sl X hX) ⟨hx, ?_⟩) | walk_at "q"))
 show wpAny _ _ (handedOut (.ref _)) _ _ _
 refine handed_on (by rfl) ?_
 exact h _
theorem getAttr_get {prog : Program} {w : World} {A : Around} {E : Value → Shared → Prop} {s : Shared} {a : Addr} {X : Data} {sl : Array (Option Value)} {Q : Value → Shared → Prop} (hX : ∃ x y, X = .dict x y) (hx : s.heap.get? a = some { cls := .type "dict", data := X, slots := sl })
  (h : ∀ tk, Q (.ref s.heap.objs.size) { s with heap := s.heap.push { cls := .type "builtin_function_or_method", data := .fields #[.builtin "dict.get", .ref a] }, toks := tk }) : wpAny (model prog w) A (getAttr (.ref a) "get" true) Q E s := by
 obtain ⟨hp, g, d, tk, os⟩ := s
 have hT : ∀ tk', (⟨hp, g, d, tk', os⟩ : Shared).TypeIs (.ref a) "dict" := fun _ => ⟨_, hx, rfl⟩
 have f3 := F.slot_dict_getattribute.lookup
 have f4 := F.slot_dict_getattribute.bind (.ref a)
 have f5 := ga_dict_none
 unfold getAttr getAttrBy
 repeat (any_goals (first | walk_at "a" | exact hT _ | ((with_reducible show wpAny _ _ (call (Value.builtin "dict.__getattribute__") _ _) _ _ _); refine call_meets F.slot_dict_getattribute (hT _) F.entry_dict_ga (F.args_dict_getattribute_2 _ _) (meets_ga_get a _ sl X hX) ⟨hx, ?_⟩) | walk_at "q"))
 show wpAny _ _ (handedOut (.ref _)) _ _ _
 refine handed_on (by rfl) ?_
 exact h _
noncomputable def boundOf (id : String) (a : Addr) : Obj := { cls := .type "builtin_function_or_method", data := .fields #[.builtin id, .ref a] }
theorem bound_contains {prog : Program} {w : World} {A : Around} {E : Value → Shared → Prop} {s : Shared} {h₀ : Heap} {L a : Addr} {m : Str → Option Value} {news : List (Addr × Obj)} {X : Data} {sl : Array (Option Value)} {Q : Value → Shared → Prop} (F : Fr h₀ L s.heap m) (N : News h₀ L s.heap news) (hX : ∃ x y z, X = .set x y z) (hx : s.heap.get? a = some { cls := .type "set", data := X, slots := sl })
  (h : ∀ x h' tk, Fr h₀ L h' m → News h₀ L h' ((x, boundOf "set.__contains__" a) :: news) → (∀ p ∈ news, p.1 < x) → Q (.ref x) { s with heap := h', toks := tk }) : wpAny (model prog w) A (getAttr (.ref a) "__contains__" true) Q E s :=
 getAttr_contains hX hx fun tk => h _ _ tk (F.push _) (News.push F N _) fun p hp => Heap.lt_size (N p hp).1
theorem bound_get {prog : Program} {w : World} {A : Around} {E : Value → Shared → Prop} {s : Shared} {h₀ : Heap} {L a : Addr} {m : Str → Option Value} {news : List (Addr × Obj)} {X : Data} {sl : Array (Option Value)} {Q : Value → Shared → Prop} (F : Fr h₀ L s.heap m) (N : News h₀ L s.heap news) (hX : ∃ x y, X = .dict x y) (hx : s.heap.get? a = some { cls := .type "dict", data := X, slots := sl })
  (h : ∀ x h' tk, Fr h₀ L h' m → News h₀ L h' ((x, boundOf "dict.get" a) :: news) → (∀ p ∈ news, p.1 < x) → Q (.ref x) { s with heap := h', toks := tk }) : wpAny (model prog w) A (getAttr (.ref a) "get" true) Q E s :=
 getAttr_get hX hx fun tk => h _ _ tk (F.push _) (News.push F N _) fun p hp => Heap.lt_size (N p hp).1
end
section
theorem call_bound {prog : Program} {w : World} {A : Around} {E : Value → Shared → Prop} {s : Shared} {x a : Addr} {id : String} {args : List Value} {Q : Value → Shared → Prop} (ho : s.heap.get? x = some (boundOf id a)) (hp : plainId id = true)
  (hchk : ∀ (Q' : Unit → Shared → Prop), Q' () s → wpAny (model prog w) A.in1 (checkBoundCall id ⟨.ref a :: args, []⟩) Q' E s)
  (h : codeAny (model prog w) A (.builtin id ⟨.ref a :: args, []⟩) (fun r s' => match r with | .ok (.ret v) => Q v s' | .ok _ => False | .error e => E e s') s) : wpAny (model prog w) A (call (.ref x) args) Q E s := by
 refine wpAny_call (codeAny_of_tree ?_)
 show wpAny _ A.in1 (callAny (.ref x) ⟨args, []⟩) _ _ s
 simp only [callAny]
 refine wpAny_bind (wpAny_load ho ?_)
 simp only [boundOf, show (Value.type "builtin_function_or_method" == Value.type "method" || Value.type "builtin_function_or_method" == Value.type "builtin_function_or_method" || Value.type "builtin_function_or_method" == Value.type "method-wrapper") = true by decide, if_true]
 refine KFB.if_so (by decide) ?_
 refine wpAny_bind (hchk _ ?_)
 refine wpAny_bind (wpAny_pure (wpAny_pure ?_))
 exact ⟨plainId_quiet hp _, h⟩
theorem sub_dict_module : isSubtype (.type "dict") (.type "module") = pure false := by rw [isSubtype_type]; kernel_rfl
theorem sub_dict_type : isSubtype (.type "dict") (.type "type") = pure false := by rw [isSubtype_type]; kernel_rfl
theorem sub_set_module : isSubtype (.type "set") (.type "module") = pure false := by rw [isSubtype_type]; kernel_rfl
theorem sub_set_type : isSubtype (.type "set") (.type "type") = pure false := by rw [isSubtype_type]; kernel_rfl
theorem check_get {prog : Program} {w : World} {A : Around} {E : Value → Shared → Prop} {s : Shared} {d : Addr} {o : Obj} {k v : Value} (ho : s.heap.get? d = some o) (hc : o.cls = .type "dict") (hX : ∃ x y, o.data = .dict x y) (Q' : Unit → Shared → Prop) (h : Q' () s) : wpAny (model prog w) A (checkBoundCall "dict.get" ⟨[.ref d, k, v], []⟩) Q' E s := by
 obtain ⟨c, dct, dat, sl⟩ := o
 obtain ⟨x, y, hX⟩ := hX
 simp only at hc hX
 subst hc hX
 have hT : s.TypeIs (.ref d) "dict" := ⟨_, ho, rfl⟩
 have f1 := sub_dict_module
 have f2 := sub_dict_type
 unfold checkBoundCall
 repeat (any_goals (first | walk_at "a" | walk_at "q"))
theorem check_contains {prog : Program} {w : World} {A : Around} {E : Value → Shared → Prop} {s : Shared} {d : Addr} {o : Obj} {v : Value} (ho : s.heap.get? d = some o) (hc : o.cls = .type "set") (hX : ∃ x y z, o.data = .set x y z) (Q' : Unit → Shared → Prop) (h : Q' () s) : wpAny (model prog w) A (checkBoundCall "set.__contains__" ⟨[.ref d, v], []⟩) Q' E s := by
 obtain ⟨c, dct, dat, sl⟩ := o
 obtain ⟨x, y, z, hX⟩ := hX
 simp only at hc hX
 subst hc hX
 have hT : s.TypeIs (.ref d) "set" := ⟨_, ho, rfl⟩
 have f1 := sub_set_module
 have f2 := sub_set_type
 unfold checkBoundCall
 repeat (any_goals (first | walk_at "a" | walk_at "q"))
theorem plain_get : plainId "dict.get" = true := by decide +kernel
theorem plain_contains : plainId "set.__contains__" = true := by decide +kernel
theorem call_get {prog : Program} {w : World} {A : Around} {E : Value → Shared → Prop} {s : Shared} {h₀ : Heap} {L x d : Addr} {news : List (Addr × Obj)} {o : Obj} {K : Type} [DecidableEq K] {knd : KeyKind prog w K} {kvs : List (K × Value)} {k : K} {key dflt : Value} {Q : Value → Shared → Prop}
  (N : News h₀ L s.heap news) (hb : (x, boundOf "dict.get" d) ∈ news) (hm : (d, o) ∈ news) (hd : o.IsDictOf knd kvs) (hX : o.cls = .type "dict" ∧ ∃ y z, o.data = .dict y z) (hkey : knd.is k key = true) (lo : (d == sysModules) = false)
  (h : Q ((valueAt kvs k).getD dflt) { s with toks := s.toks + 1 }) : wpAny (model prog w) A (call (.ref x) [key, dflt]) Q E s := by
 have hD : s.heap.DictOf knd d kvs := Heap.dictOf_iff.mpr ⟨o, (N _ hm).1, hd⟩
 refine call_bound (N _ hb).1 plain_get (fun Q' q => check_get (N _ hm).1 hX.1 hX.2 Q' q) (codeAny_builtin PySem.F.entry_dict_get ?_)
 rw [Around.under_plainId plain_get _]
 exact meets_dict_get_default knd d hkey lo dflt A (fun r s' => match r with | .ok (.ret v) => Q v s' | .ok _ => False | .error e => E e s') s ⟨_, hD.mapOf, h⟩
end
section
section
variable {prog : Program} {w : World} {M : Model} {A : Around} {E : Value → Shared → Prop} {s : Shared} {h₀ : Heap} {L : Addr} {news : List (Addr × Obj)}
theorem call_contains {x d : Addr} {led : Bool} {c : Str} {t : Tok} {Q : Value → Shared → Prop}
  (N : News h₀ L s.heap news) (hb : (x, boundOf "set.__contains__" d) ∈ news) (hd : s.heap.get? d = some { cls := .type "set", data := .set #[] 0 (SetTable.fresh 0 0 led) })
  (h : Q (.bool false) { s with toks := s.toks + 1 }) : wpAny (model prog w) A (call (.ref x) [.str c t]) Q E s := by
 have hS : s.heap.SetOf (PySem.strKind prog w) d (fun _ => false) 0 := (PyProof.Rows.setObjOf_fresh (knd := PySem.strKind prog w) led).setOf hd (by unfold scanBound; lia)
 have hkey := strKind_is prog w c t
 refine call_bound (N _ hb).1 plain_contains (fun Q' q => check_contains hd rfl ⟨_, _, _, rfl⟩ Q' q) (codeAny_builtin PySem.entry_set_contains ?_)
 rw [Around.under_plainId plain_contains _]
 unfold Builtin.«frozenset.__contains__» Builtin.Frozenset.oneOther
 simp only [List.isEmpty_nil, bind_assoc]
 unfold Builtin.Frozenset.addrOf Builtin.Frozenset.withSetAsKey setContains
 refine wpAny_bind (wpAny_pure ?_)
 try dsimp only
 refine wpAny_bind (wpAny_pure ?_)
 try dsimp only
 refine wpAny_bind (wpAny_tryCatch ?_)
 refine wpAny_holding ?_
 refine wpAny_bind ((PySem.strKind prog w).pyHash hkey ?_)
 refine wpAny_bind (wpAny_setFind_of (s := { s with toks := s.toks + 1 }) hkey rfl hS fun r hr => ?_)
 refine wpAny_pure ?_
 show wpAny _ _ (ret (Value.bool r.isSome)) _ _ _
 rw [hr]
 exact wpAny_pure h
noncomputable def OwnAt (u : Addr) (id : String) (a : Addr) (h : Heap) : Prop := h.get? u = some (boundOf id a)
theorem callWith_ownF {pos : Pos} {u a : Addr} {id : String} {first : List Value} {args : List (Bool × Sem Value)} {Q : Value → Shared → Prop} (hp : args.any (·.1) = false)
  (h : wpAny M A (evalArgs (.ref u) true args []) (fun x s₁ => OwnAt u id a s₁.heap ∧ wpAny M A (call (.ref u) (first ++ x.pos) x.kw) Q E s₁) E s) : wpAny M A (callWith pos (.ref u) first args []) Q E s := by
 unfold callWith
 refine wpAny_bind (wpAny_holding (wpAny_mono h (fun x s₁ h₁ => wpAny_bind (wpAny_standAt ?_)) fun _ _ x => x))
 obtain ⟨ho, hcall⟩ := h₁
 simp only [hp, List.any_nil, Bool.or_false]
 refine wpAny_bind (m := keeperOf (.ref u)) ?_
 unfold keeperOf
 refine wpAny_bind (wpAny_load ho ?_)
 simp only [boundOf, show (Value.type "builtin_function_or_method" != Value.type "method") = true by decide, show (Value.type "builtin_function_or_method" == Value.type "builtin_function_or_method" || Value.type "builtin_function_or_method" == Value.type "method-wrapper") = true by decide, if_true]
 refine wpAny_pure ?_
 exact wpAny_bind (wpAny_mono hcall (fun r s₂ hr => wpAny_bind (wpAny_holding (wpAny_point (wpAny_pure hr)))) fun _ _ x => x)
theorem callWith_own {pos : Pos} {u a : Addr} {id : String} {first : List Value} {env : Env} {e : Expr} {rest : List Expr} {Q : Value → Shared → Prop} (_N : News h₀ L s.heap news) (_hm : (u, boundOf id a) ∈ news)
  (h : wpAny M A (spliced (backTo pos (starEach (e :: rest) env))) (fun vs s₁ => OwnAt u id a s₁.heap ∧ wpAny M A (call (.ref u) (first ++ vs)) Q E s₁) E s)
  (he : starEach (e :: rest) env = (false, eval e env) :: starEach rest env := by rfl) (hplain : (backTo pos (starEach rest env)).any (·.1) = false := by rfl) :
  wpAny M A (callWith pos (.ref u) first (backTo pos (starEach (e :: rest) env)) []) Q E s := by
 rw [he] at h ⊢
 refine callWith_ownF (id := id) (a := a) (by show (false || (backTo pos (starEach rest env)).any (·.1)) = false; rw [hplain]; rfl) ?_
 exact evalArgs_plain h
theorem while_none {test : Expr} {body : List Stmt} {env : Env} {pos : Pos} {Q : Flow → Shared → Prop}
  (h : wpAny (model prog w) A (isTrue test env (eval test env)) (fun b s₂ => b = false ∧ Q .next s₂) (fun _ _ => False) s) :
  wpAny (model prog w) A (exec (.While test body [] pos) env) Q (fun _ _ => False) s := by
 refine wpAny_While ?_
 refine codeAny_whileLoop (fun n s' => s' = s) ?_ 0 rfl
 rintro n s' rfl
 refine wpAny_mono h (fun b s₂ h₂ => ?_) fun _ _ x => x.elim
 obtain ⟨rfl, h₂⟩ := h₂
 simp only [Bool.false_eq_true, if_false]
 exact wpAny_execs_nil h₂
end
end
local macro_rules | `(tactic| walk_at "eval Name") => `(tactic| (k_here; k_dflt (refine' nameX_L ?zF ?zv ?_ ?za ?zb; (case zF => k_asm); (case za => rfl); (case zb => rfl); (case zv => walk_at "my look"); k_whole)))
local macro_rules | `(tactic| walk_at "loadName") => `(tactic| (k_here; k_dflt (refine' ldn ?zF ?zv ?_ ?za ?zb; (case zF => k_asm); (case za => rfl); (case zb => rfl); (case zv => walk_at "my look"); k_whole)))
section
theorem int_eq {Q : Value → Shared → Prop} {x y : Int} {t : Tok} {s : Shared} (e : x = y) (h : Q (.int x t) s) : Q (.int y t) s := e ▸ h
noncomputable def sameL : List Str → List Str → Nat
 | x :: xs, y :: ys => if x = y then sameL xs ys + 1 else 0
 | _, _ => 0
theorem sameL_stop_len {k : Nat} : ∀ {xs ys : List Str}, (xs.length ≤ k ∨ ys.length ≤ k) → sameL (xs.drop k) (ys.drop k) = 0 := by
 intro xs ys h
 rcases h with h | h
 ·rw [List.drop_eq_nil_of_le h]; cases ys.drop k <;> rfl
 ·rw [List.drop_eq_nil_of_le h]; cases xs.drop k <;> rfl
theorem sameL_stop_ne {k : Nat} {xs ys : List Str} (h : xs.getD k Str.empty ≠ ys.getD k Str.empty) : sameL (xs.drop k) (ys.drop k) = 0 := by
 by_cases h1 : k < xs.length
 ·by_cases h2 : k < ys.length
  ·rw [List.drop_eq_getElem_cons h1, List.drop_eq_getElem_cons h2, sameL, if_neg]
   intro e; apply h; simp [h1, h2, e]
  ·exact sameL_stop_len (.inr (Nat.le_of_not_lt h2))
 ·exact sameL_stop_len (.inl (Nat.le_of_not_lt h1))
theorem sameL_go {k : Nat} {xs ys : List Str} (h1 : k < xs.length) (h2 : k < ys.length) (h : xs.getD k Str.empty = ys.getD k Str.empty) : sameL (xs.drop k) (ys.drop k) = sameL (xs.drop (k + 1)) (ys.drop (k + 1)) + 1 := by
 rw [List.drop_eq_getElem_cons h1, List.drop_eq_getElem_cons h2, sameL, if_pos]
 simpa [h1, h2] using h
inductive SameJ (a : Addr) (b : Addr) (xs : List Str) (ys : List Str) (n : Nat) (m : Str → Option Value) (news : List (Addr × Obj)) : Prop
 | mk (e0 : news = []) (k : Nat) (t : _) (e1 : m (Str.ofString "size") = some (.int k t)) (e2 : m (Str.ofString "first") = some (.ref a)) (e3 : m (Str.ofString "last") = some (.ref b)) (e4 : k + sameL (xs.drop k) (ys.drop k) = sameL xs ys) (e5 : n + k = xs.length) : SameJ a b xs ys n m news
theorem minlt {k a b : Nat} (h : (k : Int) < if (b : Int) < (a : Int) then (b : Int) else (a : Int)) : k < a ∧ k < b := by
 by_cases q : (b : Int) < (a : Int)
 ·rw [if_pos q] at h; exact ⟨Int.ofNat_lt.mp (Int.lt_trans h q), Int.ofNat_lt.mp h⟩
 ·rw [if_neg q] at h; exact ⟨Int.ofNat_lt.mp h, Int.ofNat_lt.mp (Int.lt_of_lt_of_le h (Int.not_lt.mp q))⟩
theorem minle {k a b : Nat} (h : ¬(k : Int) < if (b : Int) < (a : Int) then (b : Int) else (a : Int)) : a ≤ k ∨ b ≤ k := by
 by_cases q : (b : Int) < (a : Int)
 ·rw [if_pos q] at h; exact .inr (Int.ofNat_le.mp (Int.not_lt.mp h))
 ·rw [if_neg q] at h; exact .inl (Int.ofNat_le.mp (Int.not_lt.mp h))
theorem nP1 {n k l : Nat} (h : n + k = l) (h2 : k < l) : 0 < n := Nat.pos_of_ne_zero fun e => by subst e; rw [Nat.zero_add] at h; exact absurd h (Nat.ne_of_lt h2)
theorem nP2 {n k l : Nat} (h : n + k = l) (h2 : 0 < n) : n - 1 + (k + 1) = l := by rw [← h, Nat.add_comm k 1, ← Nat.add_assoc, Nat.sub_add_cancel h2]
theorem same_ {w : World} {A : Around} {E : Value → Shared → Prop} {s : Shared} {Q : Value → Shared → Prop} {a b : Addr} {vs us : List Value} {xs ys : List Str}
  (C : Cx w s.heap) (R : Room A 3) (la : s.heap.IsList a vs.toArray) (lb : s.heap.IsList b us.toArray) (sa : StrsAre vs xs) (sb : StrsAre us ys) (zx : xs.length ≤ 1000) (zy : ys.length ≤ 1000)
  (hQ : ∀ h' tk t, Keeps s.heap h' → Q (.int (sameL xs ys) t) {s with heap := h', toks := tk}) :
  wpAny (model pw w) A (call (.ref 380) [.ref a, .ref b]) Q E s := by
 w_on
 w_strict (
  ((rename Room _ _ => R0); (rename Around => A0); (obtain ⟨hd0, d0, fr0, gd0, u0⟩ := A0); (have hh0 := Room.handled R0); (dsimp only at hh0); (subst hh0); refine wpAny_call ?_)
  refine' enter [(Str.ofString "first", .ref a), (Str.ofString "last", .ref b)] ?k1 ?k6 ?k7 ?k8 ?k9 ?kB ?_ ?c2 ?c3 ?c4 ?c5
  ( k_dflt ((case k1 => assumption); (case k6 => k_is); (case k7 => k_is); (case k8 => assumption); (case k9 => walk_at "my binds"); (case c5 => decide); (case kB => exact locs rfl); (case c2 => exact rfl); (case c3 => exact rfl); (case c4 => exact rfl); intro h' F' N' R'; (try dsimp only at F'); (try dsimp only)); have X := Cx.X (by assumption); obtain ⟨mg, mb, T⟩ := Cx.T (by assumption))
  walk_at "my steps"
  have e1 := StrsAre.length sa
  have e2 := StrsAre.length sb
  refine while_inv (SameJ a b xs ys) xs.length (by assumption) (by assumption) ⟨rfl, 0, _, rfl, rfl, rfl, by simp, rfl⟩ ?_
  rintro n m news h tk ⟨rfl, k, t, m1, m2, m3, hk, hn⟩ F N
  walk_at "my steps"
  ·rename_i g1 _ _ g2 _ _ _
   have g3 := minlt g1
   have z := sameL_go (xs := xs) (ys := ys) (k := k) g3.1 g3.2 (by simpa using g2)
   refine' wnext (by walk_at "a") (by walk_at "a") (n - 1) (Nat.sub_lt (nP1 hn g3.1) (Nat.succ_pos 0)) ?wj ?ws
   case wj => exact ⟨rfl, k + 1, _, rfl, m2, m3, (Nat.add_right_comm k 1 _).trans ((congrArg (k + ·) z).symm.trans hk), nP2 hn (nP1 hn g3.1)⟩
   case ws => walk_at "my sub"
  ·rename_i g1 _ _ g2
   have z := sameL_stop_ne (xs := xs) (ys := ys) (k := k) (by simpa using g2)
   rw [z] at hk
   refine int_eq (x := (sameL xs ys : Int)) (by rw [← hk]; rfl) (hQ _ _ _ (Fr.keep (by assumption)))
  ·rename_i g1
   have z := sameL_stop_len (xs := xs) (ys := ys) (k := k) (minle g1)
   rw [z] at hk
   refine int_eq (x := (sameL xs ys : Int)) (by rw [← hk]; rfl) (hQ _ _ _ (Fr.keep (by assumption))))
end
local macro_rules | `(tactic| walk_at "call ref") => `(tactic| (refine' basename_ ?zC ?zR ?zz ?_; walk_at "my cr"; (case zz => walk_at "o"); walk_at "my lift"))
local macro_rules | `(tactic| walk_at "call ref") => `(tactic| (refine' dirname_ ?zC ?zR ?zz ?_; walk_at "my cr"; (case zz => walk_at "o"); walk_at "my lift"))
section
inductive Ups : Str → List Str → Nat → Prop
 | stop (p : Str) : p.length ≤ 1000 → dirP p = p → Ups p [] 0
 | step (p : Str) (xs : List Str) (n : Nat) : p.length ≤ 1000 → dirP p ≠ p → Ups (dirP p) xs n → Ups p ((if baseP p = Str.ofString "" ∨ baseP p = Str.ofString "." then [] else [baseP p]) ++ xs) (n + 1)
theorem StrsAre.snoc {vs : List Value} {xs : List Str} (h : StrsAre vs xs) (x : Str) (t : Tok) : StrsAre (vs ++ [.str x t]) (xs ++ [x]) := by
 induction h with
 | nil => exact .cons _ _ .nil
 | cons y u _ ih => exact .cons _ _ ih
theorem up_in {x : Str} (h : ([Str.ofString "", Str.ofString "."].any fun y => y == x) = true) : x = Str.ofString "" ∨ x = Str.ofString "." := by
 simp only [List.any_cons, List.any_nil, Bool.or_false, Bool.or_eq_true, beq_iff_eq] at h
 exact h.imp Eq.symm Eq.symm
theorem up_out {x : Str} (h : ([Str.ofString "", Str.ofString "."].any fun y => y == x) = false) : ¬ (x = Str.ofString "" ∨ x = Str.ofString ".") := by
 rintro (rfl | rfl) <;> simp at h
inductive UpJ (xs : List Str) (n : Nat) (m : Str → Option Value) (news : List (Addr × Obj)) : Prop
 | mk (l its k p t pre suf : _) (e0 : news = [(l, listOf its k)]) (e1 : m (Str.ofString "path") = some (.str p t)) (e2 : m (Str.ofString "names") = some (.ref l)) (e3 : Ups p suf n) (e4 : StrsAre its.toList pre) (e5 : pre ++ suf = xs) (e6 : its.size + n ≤ 1000) : UpJ xs n m news
noncomputable section
namespace cup_
noncomputable def zP (w : World) (A : Around) (E : Value → Shared → Prop) (s : Shared) (Q : Value → Shared → Prop) (p : Str) (t : Tok) (xs : List Str) (n : Nat) : Prop := ∀ (C : Cx w s.heap) (R : Room A 6) (U : Ups p xs n) (hn : n ≤ 1000) (hQ : ∀ h' tk l its k, Keeps s.heap h' → s.heap.get? l = none → h'.get? l = some (listOf its k) → StrsAre its.toList xs → Q (.ref l) {s with heap := h', toks := tk}), wpAny (model pw w) A (call (.ref 373) [.str p t]) Q E s
noncomputable def zT (x : YY) : Prop := zP (x 1 0) { depth := (x 0 1), frames := (x 10 2), guards := (x 11 3), units := (x 0 4) } (x 9 5) (x 5 6) (x 9 7) (x 12 8) (x 0 9) (x 13 10) (x 0 11)
noncomputable def zC := pickY zT
@[irreducible] def w : World := zC 1 0
def d0 : Nat := zC 0 1
@[irreducible] def fr0 : Option (List Env) := zC 10 2
@[irreducible] def gd0 : Option (List Code) := zC 11 3
def u0 : Nat := zC 0 4
@[irreducible] def E : Value → Shared → Prop := zC 9 5
@[irreducible] def s : Shared := zC 5 6
@[irreducible] def Q : Value → Shared → Prop := zC 9 7
def p : Str := zC 12 8
def t : Tok := zC 0 9
@[irreducible] def xs : List Str := zC 13 10
def n : Nat := zC 0 11
theorem zA (h : zP w { depth := d0, frames := fr0, guards := gd0, units := u0 } E s Q p t xs n) : ∀ y, zT y := by with_unfolding_all exact pickY_spec zT h
theorem zK : zP w { depth := d0, frames := fr0, guards := gd0, units := u0 } E s Q p t xs n := by
 intro C R U hn hQ
 w_on
 w_strict (
  (rename Room _ _ => R0); refine wpAny_call ?_
  refine' enter [(Str.ofString "path", .str p t)] ?k1 ?k6 ?k7 ?k8 ?k9 ?kB ?_ ?c2 ?c3 ?c4 ?c5
  ( k_dflt ((case k1 => assumption); (case k6 => k_is); (case k7 => k_is); (case k8 => assumption); (case k9 => walk_at "my binds"); (case c5 => decide); (case kB => exact locs rfl); (case c2 => exact rfl); (case c3 => exact rfl); (case c4 => exact rfl); intro h' F' N' R'; (try dsimp only at F'); (try dsimp only)); have X := Cx.X (by assumption); obtain ⟨mg, mb, T⟩ := Cx.T (by assumption))
  walk_at "my steps"
  refine while_inv (UpJ xs) n (by assumption) (by assumption) ⟨_, _, _, p, t, [], xs, rfl, rfl, rfl, U, .nil, rfl, by simpa using hn⟩ ?_
  rintro n m news h tk ⟨l, its, k, p, t, pre, suf, rfl, m1, m2, U, hS, hp, hz⟩ F N
  have hp1 : p.length ≤ 1000 := by cases U <;> assumption
  walk_at "my steps"
  ·have g1 : (dirP p != p) = true := by walk_at "a"
   have g2 := up_in (x := baseP p) (by walk_at "a")
   cases U with
   | stop _ _ e => simp [e] at g1
   | step _ suf n _ ne U =>
   rw [if_pos g2] at hp
   refine' wnext (by walk_at "a") (by walk_at "a") n (by lia) ?wj ?ws
   case wj => exact ⟨l, its, k, _, _, pre, suf, rfl, rfl, m2, U, hS, by simpa using hp, by lia⟩
   case ws => walk_at "my sub"
  ·have g1 : (dirP p != p) = true := by walk_at "a"
   have g2 := up_out (x := baseP p) (by walk_at "a")
   cases U with
   | stop _ _ e => simp [e] at g1
   | step _ suf n _ ne U =>
   rw [if_neg g2] at hp
   refine' wnext (news' := [(l, listOf (its.push (.str (baseP p) ?wt)) (k + 1))]) (by walk_at "a") (by walk_at "a") n (by lia) ?wj ?ws
   case ws => walk_at "my sub"
   case wj => exact ⟨l, _, _, _, _, pre ++ [baseP p], suf, rfl, rfl, m2, U, by simpa using StrsAre.snoc hS _ _, by simpa using hp, by simp; lia⟩
  ·have g1 : (dirP p != p) = false := by walk_at "a"
   cases U with
   | step _ suf n _ ne U => exact absurd (by simpa using g1) ne
   | stop _ _ e =>
   rename News _ _ _ _ => N'
   exact hQ _ _ l its k (Fr.keep (by assumption)) (N'.fresh (.head _)) (N'.get (.head _)) (by rw [← hp, List.append_nil]; exact hS))
end cup_
end
theorem up_ {w : World} {A : Around} {E : Value → Shared → Prop} {s : Shared} {Q : Value → Shared → Prop} {p : Str} {t : Tok} {xs : List Str} {n : Nat} : cup_.zP w A E s Q p t xs n := by
 intro C R
 obtain ⟨hd0, d0, fr0, gd0, u0⟩ := A
 have hh0 := Room.handled R
 dsimp only at hh0
 subst hh0
 exact cup_.zA cup_.zK (putY [⟨1, w⟩, ⟨0, d0⟩, ⟨10, fr0⟩, ⟨11, gd0⟩, ⟨0, u0⟩, ⟨9, E⟩, ⟨5, s⟩, ⟨9, Q⟩, ⟨12, p⟩, ⟨0, t⟩, ⟨13, xs⟩, ⟨0, n⟩]) C R
end
section
noncomputable def isNm (p : Str) : Bool := !(p == Str.ofString "" || p == Str.ofString ".")
noncomputable def textStep (start stop : Int) (a : Int × Str) (p : Str) : Int × Str :=
 let c := if isNm p then a.1 + 1 else a.1
 (c, if start < c ∧ c ≤ stop then a.2 ++ (Str.ofString "/" ++ p) else a.2)
noncomputable def textS (row : List Str) (start stop : Int) : Str :=
 let t := (row.foldl (textStep start stop) (0, Str.ofString "")).2
 if t = Str.ofString "" then Str.ofString "/" else t
theorem strs_item {vs : List Value} {xs : List Str} (h : StrsAre vs xs) : ∀ {k : Nat} {v : Value}, vs[k]? = some v → ∃ x t, v = .str x t ∧ xs[k]? = some x := by
 induction h with
 | nil => intro k v e; cases e
 | cons y u _ ih =>
  intro k v e
  cases k with
  | zero => cases e; exact ⟨_, _, rfl, rfl⟩
  | succ k => exact ih (by simpa using e)
theorem isNm_any (x : Str) : isNm x = !([Str.ofString "", Str.ofString "."].any fun y => y == x) := by
 simp only [isNm, List.any_cons, List.any_nil, Bool.or_false]
 rw [Bool.beq_comm (a := x), Bool.beq_comm (a := x)]
theorem slash_length : (Str.ofString "/").length = 1 := by decide +kernel
theorem str_nil {y : Str} (h : y.length = 0) : y = Str.ofString "" := by
 obtain ⟨a⟩ := y
 have : a = #[] := Array.size_eq_zero_iff.mp h
 subst this
 decide +kernel
section
variable {i j c : Int} {y x : Str}
theorem tstep1 (g : ([Str.ofString "", Str.ofString "."].any fun y => y == x) = true) (h1 : i < c) (h2 : c ≤ j) : textStep i j (c, y) x = (c, y ++ (Str.ofString "/" ++ x)) := by
 simp only [textStep, isNm_any, g]; rw [if_neg (by decide), if_pos ⟨h1, h2⟩]
theorem tstep2 (g : ([Str.ofString "", Str.ofString "."].any fun y => y == x) = true) (h1 : ¬ i < c) : textStep i j (c, y) x = (c, y) := by
 simp only [textStep, isNm_any, g]; rw [if_neg (by decide), if_neg fun e => h1 e.1]
theorem tstep3 (g : ([Str.ofString "", Str.ofString "."].any fun y => y == x) = true) (h1 : ¬ c ≤ j) : textStep i j (c, y) x = (c, y) := by
 simp only [textStep, isNm_any, g]; rw [if_neg (by decide), if_neg fun e => h1 e.2]
theorem tstep4 (g : ([Str.ofString "", Str.ofString "."].any fun y => y == x) = false) (h1 : i < c + 1) (h2 : c + 1 ≤ j) : textStep i j (c, y) x = (c + 1, y ++ (Str.ofString "/" ++ x)) := by
 simp only [textStep, isNm_any, g]; rw [if_pos (by decide), if_pos ⟨h1, h2⟩]
theorem tstep5 (g : ([Str.ofString "", Str.ofString "."].any fun y => y == x) = false) (h1 : ¬ i < c + 1) : textStep i j (c, y) x = (c + 1, y) := by
 simp only [textStep, isNm_any, g]; rw [if_pos (by decide), if_neg fun e => h1 e.1]
theorem tstep6 (g : ([Str.ofString "", Str.ofString "."].any fun y => y == x) = false) (h1 : ¬ c + 1 ≤ j) : textStep i j (c, y) x = (c + 1, y) := by
 simp only [textStep, isNm_any, g]; rw [if_pos (by decide), if_neg fun e => h1 e.2]
end
inductive TextJ (xs : List Str) (i : Int) (j : Int) (ti : Tok) (tj : Tok) (k : Nat) (m : Str → Option Value) (news : List (Addr × Obj)) : Prop
 | mk (e0 : news = []) (c x tc tt : _) (e1 : (xs.take k).foldl (textStep i j) (0, Str.ofString "") = (c, x)) (e2 : m (Str.ofString "count") = some (.int c tc)) (e3 : m (Str.ofString "text") = some (.str x tt)) (e4 : m (Str.ofString "start") = some (.int i ti)) (e5 : m (Str.ofString "stop") = some (.int j tj)) (e6 : x.length ≤ 20 * k) : TextJ xs i j ti tj k m news
noncomputable section
namespace ctext_
noncomputable def zP (w : World) (A : Around) (E : Value → Shared → Prop) (s : Shared) (Q : Value → Shared → Prop) (a : Addr) (vs : List Value) (xs : List Str) (i j : Int) (ti tj : Tok) : Prop := ∀ (C : Cx w s.heap) (R : Room A 3) (la : s.heap.IsList a vs.toArray) (sa : StrsAre vs xs) (zx : xs.length ≤ 10) (zs : ∀ x ∈ xs, x.length ≤ 10) (hQ : ∀ h' tk t, Keeps s.heap h' → Q (.str (textS xs i j) t) {s with heap := h', toks := tk}), wpAny (model pw w) A (call (.ref 366) [.ref a, .int i ti, .int j tj]) Q E s
noncomputable def zT (x : YY) : Prop := zP (x 1 0) { depth := (x 0 1), frames := (x 10 2), guards := (x 11 3), units := (x 0 4) } (x 9 5) (x 5 6) (x 9 7) (x 0 8) (x 4 9) (x 13 10) (x 8 11) (x 8 12) (x 0 13) (x 0 14)
noncomputable def zC := pickY zT
@[irreducible] def w : World := zC 1 0
def d0 : Nat := zC 0 1
@[irreducible] def fr0 : Option (List Env) := zC 10 2
@[irreducible] def gd0 : Option (List Code) := zC 11 3
def u0 : Nat := zC 0 4
@[irreducible] def E : Value → Shared → Prop := zC 9 5
@[irreducible] def s : Shared := zC 5 6
@[irreducible] def Q : Value → Shared → Prop := zC 9 7
def a : Addr := zC 0 8
@[irreducible] def vs : List Value := zC 4 9
@[irreducible] def xs : List Str := zC 13 10
def i : Int := zC 8 11
def j : Int := zC 8 12
def ti : Tok := zC 0 13
def tj : Tok := zC 0 14
theorem zA (h : zP w { depth := d0, frames := fr0, guards := gd0, units := u0 } E s Q a vs xs i j ti tj) : ∀ y, zT y := by with_unfolding_all exact pickY_spec zT h
theorem zK : zP w { depth := d0, frames := fr0, guards := gd0, units := u0 } E s Q a vs xs i j ti tj := by
 intro C R la sa zx zs hQ
 w_on
 w_strict (
  (rename Room _ _ => R0); refine wpAny_call ?_
  refine' enter [(Str.ofString "row", .ref a), (Str.ofString "start", .int i ti), (Str.ofString "stop", .int j tj)] ?k1 ?k6 ?k7 ?k8 ?k9 ?kB ?_ ?c2 ?c3 ?c4 ?c5
  ( k_dflt ((case k1 => assumption); (case k6 => k_is); (case k7 => k_is); (case k8 => assumption); (case k9 => walk_at "my binds"); (case c5 => decide); (case kB => exact locs rfl); (case c2 => exact rfl); (case c3 => exact rfl); (case c4 => exact rfl); intro h' F' N' R'; (try dsimp only at F'); (try dsimp only)); have X := Cx.X (by assumption); obtain ⟨mg, mb, T⟩ := Cx.T (by assumption))
  walk_at "my steps"
  refine wpAny_For ?_ (by intro _; rfl)
  walk_at "my steps"
  refine iter_listL (L := s.heap.objs.size) rfl rfl (la.at fun o e => Fr.keep (by walk_at "a") _ _ e) (TextJ xs i j ti tj) (by assumption) (by assumption) ⟨rfl, _, _, _, _, rfl, rfl, rfl, rfl, rfl, Nat.le_refl 0⟩ (.inl (let ⟨o, ho, _⟩ := la; ⟨o, ho⟩)) (fun _ _ _ _ _ _ q => go_name q) ?_ ?_
  ·rintro k v I oI m news h tk hv ⟨rfl, c, y, tc, tt, hf, m1, m2, m3, m4, hz⟩ hne hlt F N
   obtain ⟨x, tx, rfl, hx⟩ := strs_item sa (by simpa using hv)
   have zk : k < xs.length := (List.getElem?_eq_some_iff.mp hx).1
   have zx1 : x.length ≤ 10 := zs x (List.mem_of_getElem? hx)
   have st : (xs.take (k + 1)).foldl (textStep i j) (0, Str.ofString "") = textStep i j (c, y) x := by rw [List.take_add_one, hx]; simp [hf]
   walk_at "my steps"
   all_goals (
    refine' fnext (by walk_at "a") (by walk_at "a") ?wj ?ws ?wn
    case wj =>
     refine' ⟨rfl, _, _, _, _, ?e, ?l1, ?l2, ?l3, ?l4, ?z⟩
     case l1 => walk_at "my look"
     case l2 => walk_at "my look"
     case l3 => walk_at "my look"
     case l4 => walk_at "my look"
     case e => (rw [st]; first | exact tstep1 (by walk_at "a") (by walk_at "a") (by walk_at "a") | exact tstep2 (by walk_at "a") (by walk_at "a") | exact tstep3 (by walk_at "a") (by walk_at "a") | exact tstep4 (by walk_at "a") (by walk_at "a") (by walk_at "a") | exact tstep5 (by walk_at "a") (by walk_at "a") | exact tstep6 (by walk_at "a") (by walk_at "a"))
     case z => first | lia | (simp only [slash_length] at *; lia)
    case ws => walk_at "my sub"
    case wn => exact trivial)
  ·rintro m news h tk ⟨rfl, c, y, tc, tt, hf, m1, m2, m3, m4, hz⟩ F N
   have hz1 : y.length ≤ 1000 := by rw [List.size_toArray, StrsAre.length sa] at hz; lia
   rw [List.take_of_length_le (by rw [List.size_toArray, StrsAre.length sa]; exact Nat.le_refl _)] at hf
   walk_at "my steps"
   ·refine str_eq (x := textS xs i j) ?_ (hQ _ _ _ (Fr.keep (by walk_at "a")))
    rename_i g
    unfold textS
    rw [hf]
    exact if_neg (fun e => by dsimp only at e; rw [e] at g; exact g rfl)
   ·refine str_eq (x := textS xs i j) ?_ (hQ _ _ _ (Fr.keep (by walk_at "a")))
    rename_i g
    unfold textS
    rw [hf]
    exact if_pos (str_nil (by exact_mod_cast g)))
end ctext_
end
theorem text_ {w : World} {A : Around} {E : Value → Shared → Prop} {s : Shared} {Q : Value → Shared → Prop} {a : Addr} {vs : List Value} {xs : List Str} {i j : Int} {ti tj : Tok} : ctext_.zP w A E s Q a vs xs i j ti tj := by
 intro C R
 obtain ⟨hd0, d0, fr0, gd0, u0⟩ := A
 have hh0 := Room.handled R
 dsimp only at hh0
 subst hh0
 exact ctext_.zA ctext_.zK (putY [⟨1, w⟩, ⟨0, d0⟩, ⟨10, fr0⟩, ⟨11, gd0⟩, ⟨0, u0⟩, ⟨9, E⟩, ⟨5, s⟩, ⟨9, Q⟩, ⟨0, a⟩, ⟨4, vs⟩, ⟨13, xs⟩, ⟨8, i⟩, ⟨8, j⟩, ⟨0, ti⟩, ⟨0, tj⟩]) C R
end
section
section
variable {prog : Program} {w : World} {A : Around} {E : Value → Shared → Prop} {s : Shared} {h₀ : Heap} {L : Addr} {news : List (Addr × Obj)}
theorem len_made {l : Addr} {its : Array Value} {k : Nat} {Q : Value → Shared → Prop} (N : News h₀ L s.heap news) (hm : (l, listOf its k) ∈ news) (z : its.size ≤ 10000)
  (h : Q (.int its.size (s.toks + 1)) { s with toks := s.toks + 1 + 1 }) : wpAny (model prog w) A (call (.builtin "len") [.ref l]) Q E s := len_list ⟨_, N.get hm, rfl, _, rfl⟩ (by lia) h
theorem item_two {value slice : Expr} {l : Addr} {x y : Value} {k : Nat} {i : Int} {u : Tok} {Q : Value → Shared → Prop} (N : News h₀ L s.heap news) (hm : (l, listOf #[x, y] k) ∈ news) (hk : 0 ≤ i ∧ i < 2)
  (h0 : i = 0 → Q x s) (h1 : i = 1 → Q y s)
  (hs : subscripted slice false (.ref l) (.int i u) = operate [.ref l, .int i u] (getItem (.ref l) (.int i u)) := by with_unfolding_all rfl) (hg : ∀ r, letTemporaryGo value (.ref l) r = pure () := by intro _; with_unfolding_all rfl) :
  wpAny (model prog w) A (subscriptTail value slice (.ref l) (.int i u)) Q E s := by
 have hl : s.heap.IsList l #[x, y] := ⟨_, N.get hm, rfl, _, rfl⟩
 rcases (by lia : i = 0 ∨ i = 1) with e | e
 ·exact item_list hl (by lia) (by lia) (by rw [e]; rfl) (h0 e) hs hg
 ·exact item_list hl (by lia) (by lia) (by rw [e]; rfl) (h1 e) hs hg
end
section
variable {M : Model} {A : Around} {E : Value → Shared → Prop} {s : Shared} {h₀ : Heap} {L : Addr} {news : List (Addr × Obj)} {m : Str → Option Value}
noncomputable def CutEnd (P : Value → Prop) (h₀ : Heap) (L : Addr) (m : Str → Option Value) (news : List (Addr × Obj)) (s : Shared) (v : Value) (s' : Shared) : Prop :=
 P v ∧ ∃ h' tk, s' = { s with heap := h', toks := tk } ∧ Fr h₀ L h' m ∧ News h₀ L h' news
theorem cut_eval {t : Sem Value} {Q : Value → Shared → Prop} (F : Fr h₀ L s.heap m) (N : News h₀ L s.heap news) (P : Value → Prop)
  (h1 : wpAny M A t (CutEnd P h₀ L m news s) E s)
  (h2 : ∀ v h' tk, P v → Fr h₀ L h' m → News h₀ L h' news → Q v { s with heap := h', toks := tk }) : wpAny M A t Q E s :=
 wpAny_mono h1 (fun v s' ⟨p, h', tk, e, F', N'⟩ => e ▸ h2 v h' tk p F' N') fun _ _ x => x
theorem cut_end {P : Value → Prop} {v : Value} {h' : Heap} {tk : Nat} {news' : List (Addr × Obj)} (F : Fr h₀ L h' m) (N : News h₀ L h' news') (p : P v) (sub : ∀ q ∈ news, q ∈ news') : CutEnd P h₀ L m news s v { s with heap := h', toks := tk } :=
 ⟨p, h', tk, rfl, F, fun q hq => N q (sub q hq)⟩
end
theorem news_lts {h₀ h : Heap} {L : Addr} {news : List (Addr × Obj)} (N : News h₀ L h news) : AllLt h.objs.size news := allLt_of fun p hp => Heap.lt_size (N p hp).1
end
local macro_rules | `(tactic| walk_at "my sizes") => `(tactic| (have zlz := news_lts (by walk_at "a"); simp only [AllLt, and_true, List.cons_append, List.nil_append] at zlz))
section
theorem enterC (binds : List (Str × Value)) {w : World} {A : Around} {R : Result → Shared → Prop} {s : Shared} {name qual : Str} {params : Arguments} {body : List Stmt} {scope : Scope}
  {dV kV doc pm cdv ct oc : Value} {an od : Option Addr} {osl : Array (Option Value)} {f : Addr} {args : Args} {n : Nat}
  (C : Cx w s.heap) (ho : (KW w.params).lookup f = some ⟨oc, od, .func (fnOf name qual params body scope dV kV doc pm an cdv ct), osl⟩) (hcd : codeIn (KW w.params) cdv qual = true) (hroom : Room A (n + 1))
  (hbind : BindsTo s (fnOf name qual params body scope dV kV doc pm an cdv ct) args binds) (hkind : (binds.all fun y => scope.names.lookup y.1 == some .local || scope.names.lookup y.1 == some .cell) = true)
  (hnd : ((cellsFrom 0 scope.names []).map (·.1)).Nodup)
  (h : ∀ h₁ tk cells, Fr s.heap s.heap.objs.size h₁ (bindL (envOfC qual scope s.heap.objs.size f cdv).kindOf binds fun _ => none) → News s.heap s.heap.objs.size h₁ cells →
   CellsAre (bindC (envOfC qual scope s.heap.objs.size f cdv).kindOf binds fun _ => none) (cellsFrom (s.heap.objs.size + 1) scope.names []) cells → Room (A.deeper (envOfC qual scope s.heap.objs.size f cdv)) n →
   wpAny (model pw w) (A.deeper (envOfC qual scope s.heap.objs.size f cdv)) (execs body (envOfC qual scope s.heap.objs.size f cdv))
    (fun fl s' => R (.ok (.ret (match fl with | .ret v => v | _ => .none))) s') (fun _ _ => False)
    { s with heap := h₁, toks := tk })
  (hco : scope.isCoroutine = false) (hgen : scope.isGenerator = false) (hk : scope.kind = .function) : codeAny (model pw w) A (.call (.ref f) args) R s := by
 obtain ⟨mg, mb, T⟩ := C.T
 refine codeAny_call_function hroom.depthLt (C.X _ _ ho) rfl hco hgen rfl (codeRec_of C.X hcd) (hbind _ _ _ _ ?_)
 refine wpAny_newFunctionEnv_cells hk (kindsX hkind _) fun env' he s' x => ?_
 subst he
 refine ⟨T.nolimit.keeps x.toInCall.keep, codeAny_func ?_⟩
 obtain ⟨h₁, tk, rfl, _⟩ := x.done
 have hk₁ := x.toInCall.keep
 obtain ⟨cells, NC, Y⟩ := Cl.news (h₀ := s.heap) (Nat.le_refl _) fun n c hm => ⟨x.cell n c (lookup_of_mem_nodup (cellsFrom_names scope.names 0 (s.heap.objs.size + 1) [] [] rfl ▸ hnd) hm), x.above n c hm⟩
 exact wpAny_mono (h h₁ tk cells ⟨x.toInCall.ns, hk₁, Nat.le_refl _⟩ NC Y hroom.deeper) (fun fl s' hl => hl) fun _ _ y => y.elim
end
section
theorem slot_map_next : Slot "map" "__next__" "map.__next__" :=
 .of (owner := "map") (n := "__next__") (by rw [typeLookup_type, builtinLookup_eq_fast]; kernel_rfl) (by decide +kernel) (by decide +kernel) (by decide +kernel)
  (by first | exact .inl (by decide +kernel) | exact .inr (by decide +kernel)) (by rw [isSubtype_type]; kernel_rfl)
theorem slot_map_iter : Slot "map" "__iter__" "map.__iter__" :=
 .of (owner := "map") (n := "__iter__") (by rw [typeLookup_type, builtinLookup_eq_fast]; kernel_rfl) (by decide +kernel) (by decide +kernel) (by decide +kernel)
  (by first | exact .inl (by decide +kernel) | exact .inr (by decide +kernel)) (by rw [isSubtype_type]; kernel_rfl)
theorem slot_map_init : Slot "map" "__init__" "object.__init__" :=
 .of (owner := "object") (n := "__init__") (by rw [typeLookup_type, builtinLookup_eq_fast]; kernel_rfl) (by decide +kernel) (by decide +kernel) (by decide +kernel)
  (by first | exact .inl (by decide +kernel) | exact .inr (by decide +kernel)) (by rw [isSubtype_type]; kernel_rfl)
theorem entry_map_next : entryFor table "map.__next__" = some Builtin.«map.__next__» := entryFor_of_tree (by kernel_rfl)
theorem entry_map_new : entryFor table "map.__new__" = some Builtin.«map.__new__» := entryFor_of_tree (by kernel_rfl)
theorem entry_map_iter : entryFor table "map.__iter__" = some Builtin.«dict_keyiterator.__iter__» :=
 entryFor_alias (id' := "dict_keyiterator.__iter__") (by kernel_rfl) (by first | rfl | decide +kernel | (unfold String.splitOn; simp +decide [String.splitOnAux])) (by decide +kernel) (by kernel_rfl)
theorem args_map_next (a : Value) : argsOk "map.__next__" ⟨[a], []⟩ := by unfold argsOk; kernel_rfl
theorem args_map_iter (a : Value) : argsOk "map.__iter__" ⟨[a], []⟩ := by unfold argsOk; kernel_rfl
theorem args_obj_init3 (a b c : Value) : argsOk "object.__init__" ⟨[a, b, c], []⟩ := by unfold argsOk; kernel_rfl
theorem mro_map : mroOf (.type "map") = pure [.type "map", .type "object"] := by rw [mroOf_type]; kernel_rfl
theorem lookup_map_new : typeLookup (.type "map") "__new__" = pure (some (.builtin "map.__new__")) := by rw [typeLookup_type, builtinLookup_eq_fast]; kernel_rfl
theorem sub_map : isSubtype (.type "map") (.type "map") = pure true := by rw [isSubtype_type]; kernel_rfl
theorem called_map : TypeCalled "map" "map.__new__" "object.__init__" :=
 ⟨by decide +kernel, by decide +kernel, ⟨_, _, mro_map⟩, madeBy_type mro_map lookup_map_new (by decide +kernel), by decide +kernel, sub_map, slot_map_init⟩
theorem typeCall_map (a b : Value) : checkTypeCall "map" ⟨[a, b], []⟩ = pure () := by kernel_rfl
theorem newCall_map (a b : Value) : checkBuiltinCall "map.__new__" ⟨[.type "map", a, b], []⟩ = pure () := by kernel_rfl
theorem map_no_len : typeLookup (.type "map") "__len__" = pure none := by rw [typeLookup_type, builtinLookup_eq_fast]; kernel_rfl
theorem map_no_hint : typeLookup (.type "map") "__length_hint__" = pure none := by rw [typeLookup_type, builtinLookup_eq_fast]; kernel_rfl
noncomputable def mapHeap (h : Heap) (f : Value) (l : Addr) : Heap :=
 ((h.push { cls := .type "list_iterator", data := .fields #[.ref l, .int 0 0] }).push { cls := .type "tuple", data := .seq #[.ref h.objs.size] }).push { cls := .type "map", data := .fields #[.ref (h.objs.size + 1), f] }
theorem meets_map_new (f : Value) (l : Addr) (items : Array Value) :
  Meets (Builtin.«map.__new__» ⟨[.type "map", f, .ref l], []⟩) (fun _ R s => s.heap.IsList l items ∧
   R (.ok (.ret (.ref (s.heap.objs.size + 2)))) { s with heap := mapHeap s.heap f l }) :=
 .of_wp fun prog w A R s h => by
  obtain ⟨hp, g, d, tk, os⟩ := s; obtain ⟨hL, h⟩ := h
  have hsub := sub_map
  have e1 : (hp.push { cls := .type "list_iterator", data := .fields #[.ref l, .int 0 0] }).objs.size = hp.objs.size + 1 := Heap.size_push ..
  have e2 : ((hp.push { cls := .type "list_iterator", data := .fields #[.ref l, .int 0 0] }).push { cls := .type "tuple", data := .seq #[.ref hp.objs.size] }).objs.size = hp.objs.size + 2 := by rw [Heap.size_push, e1]
  repeat (first | with_reducible apply wpAny_pyIter_list hL | walk_at "q")
  refine ⟨_, rfl, ?_⟩
  simpa [mapHeap, Heap.size_push] using h
section
variable {prog : Program} {w : World} {A : Around} {E : Value → Shared → Prop} {s : Shared}
theorem call_map {f : Value} {l : Addr} {items : Array Value} {Q : Value → Shared → Prop} (hl : s.heap.IsList l items)
  (h : Q (.ref (s.heap.objs.size + 2)) { s with heap := mapHeap s.heap f l }) : wpAny (model prog w) A (call (.type "map") [f, .ref l]) Q E s := by
 refine callType_new called_map (by decide) (typeCall_map _ _) (newCall_map _ _) (fun obj => args_obj_init3 obj _ _) entry_map_new (meets_map_new f l items) ⟨hl, ?_⟩
 refine ⟨⟨{ cls := .type "map", data := .fields #[.ref (s.heap.objs.size + 1), f] }, ?_, rfl⟩, h⟩
 show (mapHeap s.heap f l).get? (s.heap.objs.size + 2) = some _
 have e1 : (s.heap.push { cls := .type "list_iterator", data := .fields #[.ref l, .int 0 0] }).objs.size = s.heap.objs.size + 1 := Heap.size_push ..
 have e2 : ((s.heap.push { cls := .type "list_iterator", data := .fields #[.ref l, .int 0 0] }).push { cls := .type "tuple", data := .seq #[.ref s.heap.objs.size] }).objs.size = s.heap.objs.size + 2 := by rw [Heap.size_push, e1]
 rw [← e2]
 exact Heap.get?_push_size _ rfl
noncomputable def mapObj (TI : Addr) (f : Value) : Obj := { cls := .type "map", data := .fields #[.ref TI, f] }
structure MapAt (h : Heap) (M TI I l : Addr) (f : Value) (items : Array Value) (i : Nat) : Prop where
 m : h.get? M = some (mapObj TI f)
 ti : h.get? TI = some { cls := .type "tuple", data := .seq #[.ref I] }
 it : h.IsListIter I l i
 l : h.IsList l items
theorem mapAt_new {h : Heap} {f : Value} {l : Addr} {items : Array Value} (hl : h.IsList l items) : MapAt (mapHeap h f l) (h.objs.size + 2) (h.objs.size + 1) h.objs.size l f items 0 := by
 have e1 : (h.push { cls := .type "list_iterator", data := .fields #[.ref l, .int 0 0] }).objs.size = h.objs.size + 1 := Heap.size_push ..
 have e2 : ((h.push { cls := .type "list_iterator", data := .fields #[.ref l, .int 0 0] }).push { cls := .type "tuple", data := .seq #[.ref h.objs.size] }).objs.size = h.objs.size + 2 := by rw [Heap.size_push, e1]
 refine ⟨?_, ?_, ⟨_, Heap.get?_push_of_some _ (Heap.get?_push_of_some _ (Heap.get?_push_size _ rfl)), rfl, rfl⟩, ?_⟩
 ·rw [← e2]; exact Heap.get?_push_size _ rfl
 ·rw [← e1]; exact Heap.get?_push_of_some _ (Heap.get?_push_size _ rfl)
 ·obtain ⟨o, ho, r⟩ := hl
  exact ⟨o, Heap.get?_push_of_some _ (Heap.get?_push_of_some _ (Heap.get?_push_of_some _ ho)), r⟩
theorem mapHeap_keeps (h : Heap) (f : Value) (l : Addr) : Keeps h (mapHeap h f l) := fun _ _ e => Heap.get?_push_of_some _ (Heap.get?_push_of_some _ (Heap.get?_push_of_some _ e))
theorem MapAt.keeps {h h' : Heap} {M TI I l : Addr} {f : Value} {items : Array Value} {i : Nat} (x : MapAt h M TI I l f items i) (k : Keeps h h') : MapAt h' M TI I l f items i :=
 ⟨k _ _ x.m, k _ _ x.ti, let ⟨o, ho, r⟩ := x.it; ⟨o, k _ _ ho, r⟩, let ⟨o, ho, r⟩ := x.l; ⟨o, k _ _ ho, r⟩⟩
theorem wpAny_pyIter_map {M TI I l : Addr} {f : Value} {items : Array Value} {i : Nat} {Q : Value → Shared → Prop} (x : MapAt s.heap M TI I l f items i) (h : Q (.ref M) s) : wpAny (model prog w) A (pyIter (.ref M)) Q E s := by
 have hT : s.TypeIs (.ref M) "map" := ⟨_, x.m, rfl⟩
 refine wpAny_pyIter_slot hT slot_map_iter (wpAny_call_entry slot_map_iter hT entry_map_iter ?_ (args_map_iter _))
 show wpAny _ _ (ret (.ref M)) _ _ s
 exact wpAny_pure ⟨_, rfl, "map", _, hT, slot_map_next.lookup, h⟩
theorem map_next_item {M TI I l : Addr} {f x : Value} {items : Array Value} {i : Nat} {Q : Option Value → Shared → Prop} (X : MapAt s.heap M TI I l f items i) (hx : items[i]? = some x)
  (hM : M ≠ I) (hTI : TI ≠ I) (hl : l ≠ I)
  (hcall : ∀ h', MapAt h' M TI I l f items (i + 1) → Heap.SameBut I s.heap h' → wpAny (model prog w) A.in1 (call f [x]) (fun v s' => Q (some v) s') E' { s with heap := h' })
  (hE : ∀ e s', ¬ E' e s') : wpAny (model prog w) A (pyNext (.ref M)) Q E s := by
 have hT : s.TypeIs (.ref M) "map" := ⟨_, X.m, rfl⟩
 unfold pyNext
 refine wpAny_bind (wpAny_attempt (wpAny_callSpecial?_slot (name := Str.ofString "__next__") hT slot_map_next
  (wpAny_call_entry slot_map_next hT entry_map_next ?_ (args_map_next _))))
 show wpAny _ _ (field (.ref M) 0 >>= _) _ _ _
 refine wpAny_bind (wpAny_field X.m rfl (x := .ref TI) rfl ?_)
 refine wpAny_bind (m := seqItems? (.ref TI)) (wpAny_bind (wpAny_load X.ti (wpAny_pure ?_)))
 dsimp only
 refine wpAny_bind (m := forIn #[Value.ref I] _ _) ?_
 rw [← Array.forIn_toList]
 show wpAny _ _ (forIn [Value.ref I] _ _) _ _ _
 rw [List.forIn_cons]
 refine wpAny_bind (wpAny_bind (wpAny_holding (wpAny_nextOf_list_item X.it X.l hx fun h' hit' hs' => wpAny_pure ?_)))
 dsimp only
 rw [List.forIn_nil]
 refine wpAny_pure ?_
 have X' : MapAt h' M TI I l f items (i + 1) := ⟨(hs'.2 M hM).trans X.m, (hs'.2 TI hTI).trans X.ti, hit', X.l.extBut hs'.extBut hl⟩
 refine wpAny_bind (wpAny_field X'.m rfl (x := f) rfl ?_)
 refine wpAny_bind (wpAny_holding (wpAny_mono (hcall h' X' hs') (fun v s' q => ?_) fun e s' z => absurd z (hE e s')))
 exact wpAny_bind (wpAny_letGo (wpAny_pure ⟨_, rfl, wpAny_pure q⟩))
theorem map_next_end {M TI I l : Addr} {f : Value} {items : Array Value} {Q : Option Value → Shared → Prop} (hh : A.handled = none) (X : MapAt s.heap M TI I l f items items.size)
  (hQ : ∀ h', Heap.ExtBut I s.heap h' → Q none { s with heap := h' }) : wpAny (model prog w) A (pyNext (.ref M)) Q E s := by
 have hT : s.TypeIs (.ref M) "map" := ⟨_, X.m, rfl⟩
 unfold pyNext
 refine wpAny_bind (wpAny_attempt (wpAny_callSpecial?_slot (name := Str.ofString "__next__") hT slot_map_next
  (wpAny_call_entry slot_map_next hT entry_map_next ?_ (args_map_next _))))
 show wpAny _ _ (field (.ref M) 0 >>= _) _ _ _
 refine wpAny_bind (wpAny_field X.m rfl (x := .ref TI) rfl ?_)
 refine wpAny_bind (m := seqItems? (.ref TI)) (wpAny_bind (wpAny_load X.ti (wpAny_pure ?_)))
 dsimp only
 refine wpAny_bind (m := forIn #[Value.ref I] _ _) ?_
 rw [← Array.forIn_toList]
 show wpAny _ _ (forIn [Value.ref I] _ _) _ _ _
 rw [List.forIn_cons]
 refine wpAny_bind (wpAny_bind (wpAny_holding (wpAny_nextOf_list_end hh X.it X.l (by simp) fun h' x he' hx' => ?_)))
 obtain ⟨o, ho, hc⟩ := hx'
 refine wpAny_bind (wpAny_isInstance (T := "StopIteration") (b := true) ⟨o, ho, hc⟩ isSubtype_stop ?_)
 exact wpAny_pure (hQ _ he')
end
end
section
noncomputable def Stable (R : Value → Value → Heap → Prop) : Prop := ∀ x v h h', R x v h → (∀ b o, o.cls ≠ .type "list" → o.cls ≠ .type "list_iterator" → h.get? b = some o → h'.get? b = some o) → R x v h'
structure MapRun (b0 : Heap) (M TI I l D : Addr) (f : Value) (items : Array Value) (R : Value → Value → Heap → Prop) (i : Nat) (res : List Value) (h : Heap) : Prop where
 at_ : MapAt h M TI I l f items i
 acc : ∃ c, h.get? D = some { cls := .type "list", data := .seq res.toArray c }
 base : Keeps b0 h
 len : res.length = i
 all : ∀ (j : Nat) (v x : Value), res[j]? = some v → items[j]? = some x → R x v h
structure MapApart (b0 : Heap) (M TI I l D : Addr) : Prop where
 mi : M ≠ I
 ti : TI ≠ I
 li : l ≠ I
 md : M ≠ D
 td : TI ≠ D
 ld : l ≠ D
 id : I ≠ D
 bi : b0.get? I = none
 bd : b0.get? D = none
section
variable {prog : Program} {w : World} {A : Around} {E : Value → Shared → Prop} {s : Shared} {b0 : Heap} {M TI I l D : Addr} {f : Value} {items : Array Value} {R : Value → Value → Heap → Prop}
theorem keeps_but {a : Addr} {h h' : Heap} (hs : Heap.SameBut a h h') (ha : b0.get? a = none) (k : Keeps b0 h) : Keeps b0 h' := fun b o e => (hs.2 b fun q => by rw [q, ha] at e; cases e).trans (k b o e)
theorem map_extend_loop (hh : A.handled = none) (hR : Stable R) (P : MapApart b0 M TI I l D) (hn : items.size ≤ 10000) (rv : Value)
  (hcall : ∀ (i : Nat) (x : Value) (s : Shared), items[i]? = some x → Keeps b0 s.heap → wpAny (model prog w) A.in1.in1 (call f [x]) (fun v s' => ∃ h' tk, s' = { s with heap := h', toks := tk } ∧ Keeps s.heap h' ∧ R x v h') (fun _ _ => False) s)
  {Rz : Result → Shared → Prop} : ∀ (k i : Nat) (s : Shared) (res : List Value), items.size - i = k → i ≤ items.size → MapRun b0 M TI I l D f items R i res s.heap →
   (∀ (h' : Heap) (tk : Nat) (res' : List Value) (c : Nat), h'.get? D = some { cls := .type "list", data := .seq res'.toArray c } → Keeps b0 h' → res'.length = items.size → (∀ (j : Nat) (v x : Value), res'[j]? = some v → items[j]? = some x → R x v h') → Rz (.ok (.ret rv)) { s with heap := h', toks := tk }) →
   codeAny (model prog w) A (.builtin "list.extend.loop" ⟨[.ref D, .ref M, rv], []⟩) Rz s := by
 intro k
 induction k with
 | zero =>
  intro i s res hk hi X hz
  have hin : i = items.size := nZ hk hi
  subst hin
  refine codeAny_builtin F.entry_extend_loop ?_
  rw [Around.under_plainId F.plain_extend_loop _]
  show wpAny _ A.in1 (pyNext (.ref M) >>= _) _ _ s
  refine wpAny_bind (map_next_end hh X.at_ fun h' hx => ?_)
  obtain ⟨c, hc⟩ := X.acc
  have up : ∀ b o, b ≠ I → s.heap.get? b = some o → h'.get? b = some o := fun b o hb e => hx b o hb e
  refine wpAny_pure (hz h' s.toks res c (up D _ (Ne.symm P.id) hc) (fun b o e => up b o (fun q => by rw [q, P.bi] at e; cases e) (X.base b o e)) X.len fun j v x a b => hR _ _ _ _ (X.all j v x a b) fun b o _ ho e => up b o (fun q => ?_) e)
  subst q
  obtain ⟨oI, hoI, hcI, _⟩ := X.at_.it
  rw [hoI] at e; cases e
  exact ho hcI
 | succ k ih =>
  intro i s res hk hi X hz
  have hlt : i < items.size := nQ hk
  refine codeAny_builtin F.entry_extend_loop ?_
  rw [Around.under_plainId F.plain_extend_loop _]
  show wpAny _ A.in1 (pyNext (.ref M) >>= _) _ _ s
  have hx : items[i]? = some items[i] := by simp [hlt]
  obtain ⟨c, hc⟩ := X.acc
  refine wpAny_bind (map_next_item (E' := fun _ _ => False) X.at_ hx P.mi P.ti P.li (fun h₁ X₁ hs₁ => ?_) fun _ _ z => z)
  have k₁ : Keeps b0 h₁ := keeps_but hs₁ P.bi X.base
  refine wpAny_mono (hcall i _ _ hx k₁) (fun v s' q => ?_) fun _ _ z => z
  obtain ⟨h₂, tk, rfl, k₂, hRv⟩ := q
  have hc₂ : h₂.get? D = some { cls := .type "list", data := .seq res.toArray c } := k₂ _ _ ((hs₁.2 D (Ne.symm P.id)).trans hc)
  show wpAny _ A.in1 (updateSeq D (·.push v) >>= _) _ _ _
  refine wpAny_bind ?_
  have hs₃ : Heap.SameBut D h₂ (h₂.update D (Obj.mapSeq (·.push v))) := Heap.SameBut.update ..
  refine wpAny_updateSeq hc₂ rfl (wpAny_pure ⟨plainId_quiet F.plain_extend_loop _, ih (i + 1) _ (res ++ [v]) (nN hk) hlt ?_ fun h' tk' res' c' a b d e => ?_⟩)
   (by have := X.len; rw [sizeLine_eq]; simp; lia) (by have := X.len; rw [sizeLine_eq]; simp; lia)
  ·have X₂ := X₁.keeps k₂
   have st : ∀ b o, o.cls ≠ .type "list" → h₂.get? b = some o → (h₂.update D (Obj.mapSeq (·.push v))).get? b = some o := fun b o ho e => (hs₃.2 b fun q => by rw [q, hc₂] at e; cases e; exact ho rfl).trans e
   refine ⟨⟨st _ _ (show Value.type "map" ≠ Value.type "list" by decide) X₂.m, st _ _ (show Value.type "tuple" ≠ Value.type "list" by decide) X₂.ti, let ⟨o, ho, hcl, r⟩ := X₂.it; ⟨o, st _ _ (by rw [hcl]; decide) ho, hcl, r⟩, X₂.l.extBut hs₃.extBut P.ld⟩, ⟨c + 1, ?_⟩, keeps_but hs₃ P.bd (fun b o e => k₂ _ _ (k₁ b o e)), by rw [List.length_append, X.len]; rfl, fun j u x a b => ?_⟩
   ·have := Heap.get?_update_self (Obj.mapSeq (·.push v)) hc₂ rfl
    rw [this]; simp [Obj.mapSeq]
   ·by_cases hj : j < res.length
    ·rw [List.getElem?_append_left hj] at a
     refine hR _ _ _ _ (X.all j u x a b) fun b' o h1 h2 e => st _ _ h1 (k₂ _ _ ((hs₁.2 b' fun q => ?_).trans e))
     subst q
     obtain ⟨oI, hoI, hcI, _⟩ := X.at_.it
     rw [hoI] at e; cases e
     exact h2 hcI
    ·rw [List.getElem?_append_right (by lia)] at a
     have hj0 : j - res.length = 0 := by
      rcases Nat.eq_zero_or_pos (j - res.length) with h0 | h0
      ·exact h0
      ·rw [List.getElem?_eq_none (by rw [List.length_singleton]; lia)] at a; cases a
     rw [hj0] at a
     have hji : j = i := by have := X.len; lia
     subst hji
     cases a
     rw [hx] at b; cases b
     exact hR _ _ _ _ hRv fun b' o h1 _ e => st _ _ h1 e
  ·exact hz h' tk' res' c' a b d e
end
end
section
section
variable {prog : Program} {w : World} {A : Around} {E : Value → Shared → Prop} {s : Shared} {b0 : Heap} {M TI I l D : Addr} {f : Value} {items : Array Value} {R : Value → Value → Heap → Prop}
theorem extend_map (hh : A.handled = none) (hR : Stable R) (P : MapApart b0 M TI I l D) (hn : items.size ≤ 10000) (rv : Value)
  (hcall : ∀ (i : Nat) (x : Value) (s : Shared), items[i]? = some x → Keeps b0 s.heap → wpAny (model prog w) A.in1.in1 (call f [x]) (fun v s' => ∃ h' tk, s' = { s with heap := h', toks := tk } ∧ Keeps s.heap h' ∧ R x v h') (fun _ _ => False) s)
  {Rz : Result → Shared → Prop} {c : Nat} (hM : MapAt s.heap M TI I l f items 0) (hD : s.heap.get? D = some { cls := .type "list", data := .seq #[] c }) (hb : Keeps b0 s.heap)
  (hz : ∀ (h' : Heap) (tk : Nat) (res' : List Value) (c : Nat), h'.get? D = some { cls := .type "list", data := .seq res'.toArray c } → Keeps b0 h' → res'.length = items.size → (∀ (j : Nat) (v x : Value), res'[j]? = some v → items[j]? = some x → R x v h') → Rz (.ok (.ret rv)) { s with heap := h', toks := tk }) :
  wpAny (model prog w) A.in1 (Builtin.List.listExtendWith (.ref D) (.ref M) rv)
   (fun fin s' => match fin with | .done f => Rz (.ok f) s' | .again c' => c'.quiet = true ∧ codeAny (model prog w) A c' Rz s') (fun e s' => Rz (.error e) s') s := by
 have hT : s.TypeIs (.ref M) "map" := ⟨_, hM.m, rfl⟩
 unfold Builtin.List.listExtendWith
 refine wpAny_bind (wpAny_typeOf hT ?_)
 have h1 : Builtin.List.listSameRef (.ref D) (.ref M) = false := by simp [Builtin.List.listSameRef, Ne.symm P.md]
 have h2 : (Value.type "map" == Value.type "list") = false := by decide
 have h3 : (Value.type "map" == Value.type "tuple") = false := by decide
 simp only [h1, h2, h3, Bool.or_false, Bool.false_eq_true, if_false]
 refine wpAny_bind (wpAny_pyIter_map hM ?_)
 refine wpAny_bind (wpAny_holding ?_)
 unfold Builtin.List.listLengthHint
 refine wpAny_bind (wpAny_specialOf hT map_no_len ?_)
 show wpAny _ A.in1 (specialOf (Value.ref M) (Str.ofString "__length_hint__") >>= _) _ _ _
 refine wpAny_bind (wpAny_specialOf hT map_no_hint ?_)
 refine wpAny_pure ?_
 show wpAny _ A.in1 (rule "list.extend.makes-room" >>= fun _ => Builtin.List.listTouch (.ref D) >>= fun _ =>
  again (.builtin "list.extend.loop" ⟨[.ref D, .ref M, rv], []⟩)) _ _ _
 refine wpAny_bind (wpAny_rule ?_)
 refine wpAny_bind ?_
 show wpAny _ A.in1 (updateSeq D (·.push .none) >>= fun _ => updateSeq D (·.pop)) _ _ _
 refine wpAny_bind (wpAny_updateSeq hD rfl ?_)
 have hS₂ := Heap.get?_update_self (Obj.mapSeq (·.push Value.none)) hD rfl
 refine wpAny_updateSeq hS₂ rfl ?_
 have hS₃ := Heap.get?_update_self (Obj.mapSeq (·.pop)) hS₂ rfl
 have sb : ∀ b o, b ≠ D → s.heap.get? b = some o → ((s.heap.update D (Obj.mapSeq (·.push Value.none))).update D (Obj.mapSeq (·.pop))).get? b = some o :=
  fun b o hb e => (Heap.get?_update_other _ _ (Ne.symm hb)).trans ((Heap.get?_update_other _ _ (Ne.symm hb)).trans e)
 refine wpAny_pure ⟨plainId_quiet F.plain_extend_loop _, map_extend_loop hh hR P hn rv hcall items.size 0 _ [] rfl (Nat.zero_le _) ⟨⟨sb _ _ P.md hM.m, sb _ _ P.td hM.ti, ?_, ?_⟩, ⟨c + 2, ?_⟩, fun b o e => sb _ _ (fun q => by rw [q, P.bd] at e; cases e) (hb b o e), rfl, fun j v x e => by simp at e⟩ hz⟩
 ·obtain ⟨o, ho, r⟩ := hM.it; exact ⟨o, sb _ _ P.id ho, r⟩
 ·obtain ⟨o, ho, r⟩ := hM.l; exact ⟨o, sb _ _ P.ld ho, r⟩
 ·rw [hS₃]; simp [Obj.mapSeq]
end
end
section
theorem Room.near {A A' : Around} {n : Nat} (R : Room A (n + 1)) (hd : A'.depth = A.depth) (hu : A'.units ≤ A.units + 8) (hh : A'.handled = none) : Room A' n :=
 ⟨by have := R.depth; lia, by have := R.units; lia, hh⟩
section
variable {w : World} {A : Around} {E : Value → Shared → Prop} {s : Shared} {b0 : Heap} {M TI I l : Addr} {f : Value} {items : Array Value} {R : Value → Value → Heap → Prop} {n : Nat}
structure MapOk (b0 h : Heap) (M TI I l : Addr) (f : Value) (items : Array Value) : Prop where
 at_ : MapAt h M TI I l f items 0
 mi : M ≠ I
 ti : TI ≠ I
 li : l ≠ I
 bi : b0.get? I = none
 base : Keeps b0 h
theorem none_size {b0 h : Heap} (k : Keeps b0 h) : b0.get? h.objs.size = none := by
 cases e : b0.get? h.objs.size with
 | none => rfl
 | some o => exact absurd (Heap.lt_size (k _ _ e)) (Nat.lt_irrefl _)
theorem MapOk.apart {b0 h : Heap} (x : MapOk b0 h M TI I l f items) : MapApart b0 M TI I l h.objs.size :=
 ⟨x.mi, x.ti, x.li, Nat.ne_of_lt (Heap.lt_size x.at_.m), Nat.ne_of_lt (Heap.lt_size x.at_.ti), let ⟨_, ho, _⟩ := x.at_.l; Nat.ne_of_lt (Heap.lt_size ho), let ⟨_, ho, _⟩ := x.at_.it; Nat.ne_of_lt (Heap.lt_size ho), x.bi, none_size x.base⟩
theorem mapOk_new {h : Heap} (hl : h.IsList l items) : MapOk h (mapHeap h f l) (h.objs.size + 2) (h.objs.size + 1) h.objs.size l f items :=
 ⟨mapAt_new hl, by show h.objs.size + 2 ≠ h.objs.size; lia, by show h.objs.size + 1 ≠ h.objs.size; lia, let ⟨_, ho, _⟩ := hl; Nat.ne_of_lt (Heap.lt_size ho), none_size (fun _ _ e => e), mapHeap_keeps h f l⟩
noncomputable def MapCall (w : World) (n : Nat) (b0 : Heap) (f : Value) (items : Array Value) (R : Value → Value → Heap → Prop) : Prop :=
 ∀ (A : Around) (i : Nat) (x : Value) (s : Shared), Room A n → items[i]? = some x → Keeps b0 s.heap → wpAny (model pw w) A (call f [x]) (fun v s' => ∃ h' tk, s' = { s with heap := h', toks := tk } ∧ Keeps s.heap h' ∧ R x v h') (fun _ _ => False) s
theorem call_list_map {Q : Value → Shared → Prop} (rm : Room A (n + 1)) (hR : Stable R) (hn : items.size ≤ 10000) (X : MapOk b0 s.heap M TI I l f items) (hc : MapCall w n b0 f items R)
  (hQ : ∀ (h' : Heap) (tk : Nat) (res' : List Value) (c : Nat), h'.get? s.heap.objs.size = some { cls := .type "list", data := .seq res'.toArray c } → Keeps b0 h' → res'.length = items.size → (∀ (j : Nat) (v x : Value), res'[j]? = some v → items[j]? = some x → R x v h') → Q (.ref s.heap.objs.size) { s with heap := h', toks := tk }) :
  wpAny (model pw w) A (call (.type "list") [.ref M]) Q E s := by
 have P := X.apart
 refine callType_codes (Q₁ := fun obj s₁ => obj = .ref s.heap.objs.size ∧ s₁ = { s with heap := s.heap.push { cls := .type "list", data := .seq #[] } }) F.called_list (F.typeCall_list_1 _) F.entry_list_init
  (code_list_new _ ⟨rfl, rfl⟩) fun obj s₁ h₁ => ?_
 obtain ⟨rfl, rfl⟩ := h₁
 have hS : (s.heap.push { cls := .type "list", data := .seq #[] }).get? s.heap.objs.size = some { cls := .type "list", data := .seq #[] } := Heap.get?_push_size _ rfl
 have hM := X.at_.keeps (fun b o e => Heap.get?_push_of_some { cls := .type "list", data := .seq #[] } e)
 refine ⟨⟨_, hS, rfl⟩, F.args_list_init_2 _ _, ?_⟩
 show wpAny _ A.in1.in1 (do let old ← Builtin.List.listItems (.ref s.heap.objs.size); Builtin.List.listUpdate (.ref s.heap.objs.size) (fun _ => #[]); letGo old.toList.reverse; Builtin.List.listExtendWith (.ref s.heap.objs.size) (.ref M) .none) _ _ _
 refine wpAny_bind ?_
 unfold Builtin.List.listItems
 refine wpAny_bind (wpAny_seqItems hS rfl (wpAny_pure ?_))
 show wpAny _ A.in1.in1 (updateSeq s.heap.objs.size (fun _ => #[]) >>= fun _ => letGo (#[] : Array Value).toList.reverse >>= fun _ => Builtin.List.listExtendWith (.ref s.heap.objs.size) (.ref M) .none) _ _ _
 refine wpAny_bind (wpAny_updateSeq hS rfl ?_)
 have hS₂ := Heap.get?_update_self (Obj.mapSeq (fun _ => (#[] : Array Value))) hS rfl
 have sb : ∀ b o, b ≠ s.heap.objs.size → (s.heap.push { cls := .type "list", data := .seq #[] }).get? b = some o → ((s.heap.push { cls := .type "list", data := .seq #[] }).update s.heap.objs.size (Obj.mapSeq (fun _ => (#[] : Array Value)))).get? b = some o :=
  fun b o hb e => (Heap.get?_update_other _ _ (Ne.symm hb)).trans e
 refine wpAny_bind (wpAny_letGo ?_)
 have hM₂ : MapAt _ M TI I l f items 0 := ⟨sb _ _ P.md hM.m, sb _ _ P.td hM.ti, (let ⟨o, ho, r⟩ := hM.it; ⟨o, sb _ _ P.id ho, r⟩), (let ⟨o, ho, r⟩ := hM.l; ⟨o, sb _ _ P.ld ho, r⟩)⟩
 refine extend_map (A := A.in1) (b0 := b0) (items := items) (R := R) (c := 0) rm.handled hR P hn _ (fun i x s hx k => hc _ i x s (rm.near rfl (by show A.units + 1 + 1 + 1 ≤ _; lia) rm.handled) hx k) hM₂ hS₂
  (fun b o e => sb _ _ (fun q => by rw [q, P.bd] at e; cases e) (Heap.get?_push_of_some _ (X.base b o e))) fun h' tk res' c a b d e => ⟨rfl, hQ h' tk res' c a b d e⟩
end
end
section
section
variable {w : World} {A : Around} {E : Value → Shared → Prop} {s : Shared} {b0 : Heap} {M TI I l : Addr} {f : Value} {items : Array Value} {R : Value → Value → Heap → Prop} {n : Nat}
theorem collect_map {Q : List Value → Shared → Prop} (hh : A.handled = none) (hR : Stable R) (hn : items.size ≤ 10000) (X : MapOk b0 s.heap M TI I l f items)
  (hcall : ∀ (i : Nat) (x : Value) (s : Shared), items[i]? = some x → Keeps b0 s.heap → wpAny (model pw w) A.in1.in1 (call f [x]) (fun v s' => ∃ h' tk, s' = { s with heap := h', toks := tk } ∧ Keeps s.heap h' ∧ R x v h') (fun _ _ => False) s)
  (hQ : ∀ (h' : Heap) (tk : Nat) (res' : List Value), Keeps b0 h' → res'.length = items.size → (∀ (j : Nat) (v x : Value), res'[j]? = some v → items[j]? = some x → R x v h') → Q res' { s with heap := h', toks := tk }) :
  wpAny (model pw w) A (collect (.ref M)) Q E s := by
 have P := X.apart
 have key : ∀ Rz : Result → Shared → Prop, (∀ (h' : Heap) (tk : Nat) (res' : List Value) (c : Nat), h'.get? s.heap.objs.size = some { cls := .type "list", data := .seq res'.toArray c } → Keeps b0 h' → res'.length = items.size → (∀ (j : Nat) (v x : Value), res'[j]? = some v → items[j]? = some x → R x v h') → Rz (.ok (.ret (.ref s.heap.objs.size))) { s with heap := h', toks := tk }) →
   codeAny (model pw w) A (.builtin "proto.collect" ⟨[.ref M], []⟩) Rz s := by
  intro Rz hz
  refine codeAny_builtin F.entry_proto_collect ?_
  rw [Around.under_plainId F.plain_proto_collect _]
  show wpAny _ A.in1 (newList [] >>= fun l => again (.builtin "list.__iadd__" ⟨[l, .ref M], []⟩)) _ _ s
  refine wpAny_bind (wpAny_newObj_type ?_)
  refine wpAny_pure ⟨plainId_quiet F.plain_list_iadd _, codeAny_builtin F.entry_list_iadd ?_⟩
  rw [Around.under_plainId F.plain_list_iadd _]
  have hS : (s.heap.push { cls := .type "list", data := .seq ([] : List Value).toArray }).get? s.heap.objs.size = some { cls := .type "list", data := .seq ([] : List Value).toArray } := Heap.get?_push_size _ rfl
  have hM := X.at_.keeps (fun b o e => Heap.get?_push_of_some { cls := .type "list", data := .seq ([] : List Value).toArray } e)
  have hb : Keeps b0 (s.heap.push { cls := .type "list", data := .seq ([] : List Value).toArray }) := fun b o e => Heap.get?_push_of_some _ (X.base b o e)
  show wpAny _ A.in1 (Builtin.List.listExtendWith (.ref s.heap.objs.size) (.ref M) (.ref s.heap.objs.size)) _ _ _
  exact extend_map (Rz := Rz) (s := { s with heap := s.heap.push { cls := .type "list", data := .seq ([] : List Value).toArray } }) (A := A) (b0 := b0) (items := items) (R := R) (c := 0) hh hR P hn _ hcall hM hS hb hz
 unfold collect
 refine wpAny_bind (wpAny_runValue (key _ fun h' tk res' c a b d e => ?_))
 show wpAny _ A (load s.heap.objs.size >>= _) _ _ _
 refine wpAny_bind (wpAny_load a (wpAny_pure ?_))
 exact hQ h' tk res' b d e
theorem call_tuple_map {Q : Value → Shared → Prop} (rm : Room A (n + 1)) (hR : Stable R) (hn : items.size ≤ 10000) (X : MapOk b0 s.heap M TI I l f items) (hc : MapCall w n b0 f items R)
  (hQ : ∀ (h' : Heap) (tk : Nat) (D : Addr) (res' : List Value), h'.get? D = some { cls := .type "tuple", data := .seq res'.toArray } → b0.get? D = none → Keeps b0 h' → res'.length = items.size → (∀ (j : Nat) (v x : Value), res'[j]? = some v → items[j]? = some x → R x v h') → Q (.ref D) { s with heap := h', toks := tk }) :
  wpAny (model pw w) A (call (.type "tuple") [.ref M]) Q E s := by
 refine callType_codes (Q₁ := fun obj s₁ => s₁.TypeIs obj "tuple" ∧ Q obj s₁) F.called_tuple (F.typeCall_tuple_1 _) F.entry_object_init ?_ fun obj s₁ h₁ =>
  ⟨h₁.1, F.args_object_init_2 obj _, object_init_meets F.called_tuple.init.lookup F.called_tuple.made (by decide) (model pw w).prog w A.in1 _ s₁ ⟨h₁.1, rfl, h₁.2⟩⟩
 refine codeAny_of_tree ?_
 show wpAny _ A.in1.in1 (do checkBuiltinCall "tuple.__new__" ⟨[.type "tuple", .ref M], []⟩; again (.builtin "tuple.__new__" ⟨[.type "tuple", .ref M], []⟩)) _ _ s
 refine wpAny_bind (wpAny_of_eq (F.newCall_tuple_1 _) (wpAny_pure ⟨plainId_quiet F.plain_tuple_new _, codeAny_builtin F.entry_tuple_new ?_⟩))
 rw [Around.under_plainId F.plain_tuple_new _]
 have hsub := sub_tuple_self
 have hinit := init_tuple_lookup
 have hmh := madeHere_tuple
 have hTI : s.TypeIs (.ref M) "map" := ⟨_, X.at_.m, rfl⟩
 have hcall : ∀ (i : Nat) (x : Value) (s : Shared), items[i]? = some x → Keeps b0 s.heap → wpAny (model pw w) A.in1.in1.in1.in1 (call f [x]) (fun v s' => ∃ h' tk, s' = { s with heap := h', toks := tk } ∧ Keeps s.heap h' ∧ R x v h') (fun _ _ => False) s :=
  fun i x s hx k => hc _ i x s (rm.near rfl (by show A.units + 1 + 1 + 1 + 1 ≤ _; lia) rm.handled) hx k
 have cm : ∀ {Q : List Value → Shared → Prop} {E : Value → Shared → Prop}, (∀ (h' : Heap) (tk : Nat) (res' : List Value), Keeps b0 h' → res'.length = items.size → (∀ (j : Nat) (v x : Value), res'[j]? = some v → items[j]? = some x → R x v h') → Q res' { s with heap := h', toks := tk }) →
   wpAny (model pw w) A.in1.in1 (collect (.ref M)) Q E s := fun hq => collect_map (A := A.in1.in1) rm.handled hR hn X hcall hq
 wp_walk using wpAny_typeOf hTI, cm
 intro h' tk res' k hlen hres
 show wpAny _ _ (Builtin.Tuple.tupleExact res'.toArray >>= fun v => ret v) _ _ _
 unfold Builtin.Tuple.tupleExact
 refine wpAny_bind (wpAny_newObj_type ?_ (by show res'.toArray.size ≤ sizeLine; rw [List.size_toArray, hlen, sizeLine_eq]; lia))
 refine wpAny_pure ?_
 have kp : Keeps h' (h'.push { cls := .type "tuple", data := .seq res'.toArray }) := fun b o e => Heap.get?_push_of_some _ e
 exact ⟨⟨_, Heap.get?_push_size _ rfl, rfl⟩, hQ _ tk _ res' (Heap.get?_push_size _ rfl) (none_size k) (fun b o e => kp _ _ (k b o e)) hlen fun j v x a b => hR _ _ _ _ (hres j v x a b) fun b o _ _ e => kp _ _ e⟩
end
end
section
theorem try_plain {prog : Program} {w : World} {A : Around} {E : Value → Shared → Prop} {s : Shared} {env : Env} {body orelse : List Stmt} {h₀ : ExceptHandler} {hs : List ExceptHandler} {pos : Pos} {Q : Flow → Shared → Prop}
  (h : wpAny (model prog w) A (execs body env) (fun f s₁ => match f with | .next => wpAny (model prog w) A (execs orelse env) Q E s₁ | f => Q f s₁) (fun _ _ => False) s) :
  wpAny (model prog w) A (exec (.Try body (h₀ :: hs) orelse [] pos) env) Q E s :=
 wpAny_Try_except (wpAny_mono h (fun _ _ x => x) fun _ _ x => x.elim)
end
section
section
variable {prog : Program} {w : World} {A : Around} {E : Value → Shared → Prop} {s : Shared} {h₀ : Heap} {L : Addr} {m : Str → Option Value} {env : Env}
noncomputable def TupIn (ax : Addr) (its : Array Value) (news : List (Addr × Obj)) : Prop := ∃ n, (ax, ({ cls := .type "tuple", data := .seq its n } : Obj)) ∈ news
theorem TupIn.tup {h : Heap} {ax : Addr} {its : Array Value} {news : List (Addr × Obj)} (x : TupIn ax its news) (N : News h₀ L h news) : h.IsTuple ax its := by obtain ⟨n, hm⟩ := x; exact ⟨_, (N _ hm).1, rfl, n, rfl⟩
theorem tup_st {ax I : Addr} {its : Array Value} : ∀ i (h h' : Heap) (o : Obj) (nw : List (Addr × Obj)), (h.IsTupleIter I ax i ∧ h.IsTuple ax its) → h.get? I = some o → h'.get? I = some o → (∀ b o, h₀.get? b = some o → h'.get? b = some o) → News h₀ L h' nw → TupIn ax its nw → (h'.IsTupleIter I ax i ∧ h'.IsTuple ax its) :=
 fun i h h' o nw st e e' _ N S => ⟨by obtain ⟨o', q, r⟩ := st.1; rw [e] at q; cases q; exact ⟨o, e', r⟩, S.tup N⟩
theorem tuple_push {h : Heap} {ax : Addr} {its : Array Value} (x : h.IsTuple ax its) (o : Obj) : (h.push o).IsTuple ax its := by obtain ⟨o', e, r⟩ := x; exact ⟨o', Heap.get?_push_of_some _ e, r⟩
noncomputable def TupSrc (prog : Program) (w : World) (A : Around) (h₀ : Heap) (L : Addr) (m : Str → Option Value) (env : Env) (elt : Expr) (x : Str) (scope : Scope) (cl : List (Str × Addr)) (y : Str) (Q : Flow → Shared → Prop) (xv : Value) (s₁ : Shared) : Prop :=
 ∃ ax its news, xv = .ref ax ∧ A.handled = none ∧ Fr h₀ L s₁.heap m ∧ News h₀ L s₁.heap news ∧ TupIn ax its news ∧ its.size ≤ sizeLine ∧
   ∀ h' : Heap, LCg.CompRest prog w A h₀ L m env elt x scope cl { s₁ with heap := h' } (TupIn ax its) (fun i v => its[i]? = some v) (LCg.FinA h₀ L m { s₁ with heap := h' } y Q) its.size 0 [] news
theorem TupSrc.intro {elt : Expr} {x y : Str} {scope : Scope} {cl : List (Str × Addr)} {Q : Flow → Shared → Prop} {ax : Addr} {its : Array Value} {n : Nat} {news : List (Addr × Obj)} {s₁ : Shared}
  (hh : A.handled = none) (F : Fr h₀ L s₁.heap m) (N : News h₀ L s₁.heap news) (hm : (ax, ({ cls := .type "tuple", data := .seq its n } : Obj)) ∈ news) (hz : its.size ≤ sizeLine)
  (R : ∀ h' : Heap, LCg.CompRest prog w A h₀ L m env elt x scope cl { s₁ with heap := h' } (TupIn ax its) (fun i v => its[i]? = some v) (LCg.FinA h₀ L m { s₁ with heap := h' } y Q) its.size 0 [] news) :
  TupSrc prog w A h₀ L m env elt x scope cl y Q (.ref ax) s₁ := ⟨ax, its, news, rfl, hh, F, N, ⟨n, hm⟩, hz, R⟩
theorem Assign_ListComp_Tup {elt iter : Expr} {x y : Str} {px py : Pos} {scope : Scope} {cl : List (Str × Addr)} {pos spos : Pos} {Q : Flow → Shared → Prop} (_F₀ : Fr h₀ L s.heap m) (hLe : env.locals = L)
  (hsw : swapsWith (.ListComp elt [⟨.Name x px, iter, [], 0⟩] scope pos) (some (.Name y py)) spos.line env = pure true)
  (hclos : closureFor scope env = pure cl) (hcell : ∀ z ∈ scope.names, z.2 ≠ .cell) (hkind : scope.kind = .function)
  (hnames : ∀ z ∈ scope.names, z.2 = .local → scope.names.lookup z.1 = some .local) (hx : scope.names.lookup x = some .local)
  (hy : env.kindOf y = some .local) (hp : (env.scope.kind == .class || (env.scope.kind == .module && env.locals != env.globals)) = false)
  (h : wpAny (model prog w) A (eval iter env) (TupSrc prog w A h₀ L m env elt x scope cl y Q) E s)
  (hs : ∀ x, foldedSetIterable iter env x = pure x := by intro _; rfl) :
  wpAny (model prog w) A (exec (.Assign [.Name y py] (.ListComp elt [⟨.Name x px, iter, [], 0⟩] scope pos) spos) env) Q E s := by
 subst hLe
 rw [exec_Assign_Name_used _ _ _ _ hsw]
 refine wpAny_bind (wpAny_standAt (wpAny_bind ?_))
 show wpAny _ A (do let _ ← comprehension (.ListComp elt [⟨.Name x px, iter, [], 0⟩] scope pos) scope env _ (newList []) false (eval iter env) (some (assign (.Name y py) env))) _ _ s
 refine wpAny_bind (wpAny_mono (wpAny_comprehension_free (use := some (assign (.Name y py) env)) (Q := fun _ s' => Q .next s') rfl hs hclos hkind hnames
  (wpAny_mono h (fun xv s₁ h₁ => ?_) fun _ _ e => e)) (fun _ s' hq => wpAny_pure (wpAny_pure hq)) fun _ _ e => e)
 obtain ⟨ax, its, news, rfl, hh, F, N, S, hsz, R⟩ := h₁
 have hl := S.tup N
 have hlt : ax < s₁.heap.objs.size := by obtain ⟨_, e, _⟩ := hl; exact Heap.lt_size e
 refine wpAny_pyIter_tuple hl ?_
 have up : ∀ b o, s₁.heap.get? b = some o → (s₁.heap.push { cls := .type "tuple_iterator", data := .fields #[.ref ax, .int 0 0] }).get? b = some o := fun b o e => Heap.get?_push_of_some _ e
 refine LCg.block_U (Walks.tuple hh s₁.heap.objs.size ax (Nat.ne_of_lt hlt) its) hsz (fun i h st => by obtain ⟨o, e, _⟩ := st.1; exact ⟨o, e⟩) tup_st hcell hkind hx ⟨⟨_, Heap.get?_push_size _ rfl, rfl, rfl⟩, tuple_push hl _⟩ (fun b hb => ?_)
  (F.keeps up) (N.grown up) (Nat.ne_of_lt F.ns.lt) (next_is_new F) (fun p hp => Nat.ne_of_lt (Heap.lt_size (N p hp).1)) S (R _) ?_
 ·show b < (s₁.heap.push _).objs.size
  rw [Heap.size_push]
  rcases List.mem_cons.mp hb with rfl | hb
  ·exact Nat.lt_succ_self _
  ·rw [List.mem_singleton.mp hb]; exact Nat.lt_succ_of_lt hlt
 ·intro D C h' tk m' ys news' F' N' o1 hn hC₀ hD₀ hCL hDL hCD offC fin
  show wpAny _ A (assign (.Name y py) env (.ref D)) _ _ _
  refine wpAny_assign_Name (wpAny_storeName_local hy F'.ns (fun h₂ hn₂ hs₂ => ?_) hp)
  have hL₀ : h₀.get? env.locals = none := Heap.get?_none_of_le F'.above
  have F₂ : Fr h₀ env.locals h₂ (fun z => if z = y then some (.ref D) else m z) := ⟨hn₂, fun b o e => hs₂.extBut b o (fun q => by rw [q, hL₀] at e; cases e) (F'.keep b o e), F'.above⟩
  refine ⟨m', hn.sameBut hs₂ hCL, fun h'' hs'' => fin D h'' _ (F₂.change hs'' hCL hC₀) (fun p hp => ?_) o1⟩
  have z : h₂.get? p.1 = some p.2 := hs₂.extBut _ _ (N' p hp).2.1 (N' p hp).1
  refine ⟨hs''.extBut _ _ ?_ z, (N' p hp).2⟩
  rcases List.mem_cons.mp hp with rfl | hp
  ·exact Ne.symm hCD
  ·exact offC p hp
end
end
section
noncomputable def S0 (led : Bool) : Obj := { cls := .type "set", data := .set #[] 0 (.fresh 0 0 led) }
noncomputable def T1 (led : Bool) : SetTable := (layNew (.fresh 0 0 led) #[] 1 (.bool true)).2.1
noncomputable def S1 (led : Bool) : Obj := { cls := .type "set", data := .set #[(1, .bool true)] 1 (T1 led) }
theorem lay1 (led : Bool) : layNew (.fresh 0 0 led) #[] 1 (.bool true) = (#[(1, .bool true)], T1 led, false, false) := by cases led <;> decide +kernel
theorem full1 (led : Bool) : (T1 led).tooFull = false := by cases led <;> decide +kernel
theorem fits0 (led : Bool) : (SetTable.fresh 0 0 led).fits 0 = true := by cases led <;> decide +kernel
theorem fits1 (led : Bool) : (T1 led).fits 1 = true := by cases led <;> decide +kernel
theorem led1 (led : Bool) : (T1 led).led = led := by cases led <;> decide +kernel
theorem plain1Z (led : Bool) : (T1 led).plain = true := by cases led <;> decide +kernel
section
variable {prog : Program} {w : World} {A : Around} {E : Value → Shared → Prop} {s : Shared}
theorem hash_true {Q : Int → Shared → Prop} (h : Q 1 { s with toks := s.toks + 1 }) : wpAny (model prog w) A (PySem.pyHash (.bool true)) Q E s := by
 unfold PySem.pyHash
 show wpAny _ _ (pyHashByItsType (.bool true)) Q E s
 unfold pyHashByItsType
 have hv : [Value.bool true].any Value.onHeap = false := rfl
 have hT : s.TypeIs (.bool true) "bool" := PySem.typeIs_bool _ _
 refine wpAny_bind ?_
 rw [cRoomFor, if_neg (by rw [hv]; exact Bool.false_ne_true)]; refine wpAny_pure ?_
 refine wpAny_bind (wpAny_specialOf hT F.slot_bool_hash.lookup ?_)
 show wpAny _ _ (if (some (Value.builtin "int.__hash__") == some Value.none) = true then _ else _) Q E s
 rw [if_neg (by rw [beq_builtin_none]; exact Bool.false_ne_true)]
 refine wpAny_bind (wpAny_specialOf hT F.slot_bool_hash.lookup ?_)
 show wpAny _ _ (callSpecialIfBoundUnlessNone? (.bool true) "__hash__" _ >>= _) Q E s
 refine wpAny_bind (wpAny_callSpecialIfBoundUnlessNone?_slot hT F.slot_bool_hash
  (wpAny_call_entry F.slot_bool_hash hT entry_int_hash (show wpAny _ _ (do ret (← mkInt (rawHash 1))) _ _ s from wpAny_ret_mkInt ?_) (args_int_hash _)))
 show wpAny _ _ (if (decide (-(2 : Int) ^ 63 ≤ rawHash 1) && decide (rawHash 1 < 2 ^ 63)) = true then _ else _) Q E _
 rw [if_pos (by decide +kernel)]
 exact wpAny_pure h
theorem add_true0 {D : Addr} {led : Bool} {Q : Value → Shared → Prop} (hD : s.heap.get? D = some (S0 led))
  (h : ∀ h', h'.get? D = some (S1 led) → Heap.SameBut D s.heap h' → Q .none { s with heap := h', toks := s.toks + 1 }) :
  wpAny (model prog w) A (call (.builtin "set.add") [.ref D, .bool true]) Q E s := by
 have hT : s.TypeIs (.ref D) "set" := ⟨_, hD, rfl⟩
 refine wpAny_call_entry F.slot_set_add hT F.entry_set_add ?_ (F.args_set_add_2 _ _)
 unfold Builtin.«set.add» Builtin.Frozenset.oneOther
 simp only [List.isEmpty_nil, bind_assoc]
 unfold Builtin.Frozenset.addrOf setAdd
 refine wpAny_bind (wpAny_pure ?_)
 try dsimp only
 refine wpAny_bind (wpAny_pure ?_)
 try dsimp only
 refine wpAny_bind ?_
 refine wpAny_holding ?_
 refine wpAny_bind (hash_true ?_)
 unfold setAddHashed setAddHashedIn
 refine wpAny_holding (wpAny_bind (wpAny_setState_of hD rfl (fits0 led) ?_))
 dsimp only
 rw [show byScan (.bool true) #[] = true by decide +kernel]
 simp only [↓reduceIte]
 unfold setAddByScan
 refine wpAny_bind ?_
 refine wpAny_bind (wpAny_rule ?_)
 refine wpAny_bind (m := setScan D (.bool true) 1 true #[]) (wpAny_pure ?_)
 dsimp only
 rw [lay1]
 dsimp only
 refine wpAny_bind (wpAny_pure ?_)
 rw [plain1Z]
 simp only [↓reduceIte]
 refine wpAny_bind ?_
 rw [hashByValue_scannable 8 (by decide)]
 refine wpAny_pure ?_
 rw [show plainKind (Value.bool true) = true from rfl]
 simp only [if_true, full1, Bool.not_false, Bool.and_false, Bool.false_eq_true, if_false]
 refine wpAny_bind ?_
 unfold storeSet
 refine wpAny_bind (wpAny_load hD ?_)
 show wpAny _ _ (if (#[((1 : Int), Value.bool true)]).size > sizeLine then _ else _) _ _ _
 rw [if_neg (by rw [sizeLine_eq]; decide)]
 refine wpAny_update hD (wpAny_pure (wpAny_pure (wpAny_pure ⟨_, rfl, h _ ?_ (Heap.SameBut.update ..)⟩)))
 exact Heap.get?_update_self _ hD rfl
theorem add_true1 {D : Addr} {led : Bool} {Q : Value → Shared → Prop} (hD : s.heap.get? D = some (S1 led))
  (h : Q .none { s with toks := s.toks + 1 }) :
  wpAny (model prog w) A (call (.builtin "set.add") [.ref D, .bool true]) Q E s := by
 have hT : s.TypeIs (.ref D) "set" := ⟨_, hD, rfl⟩
 refine wpAny_call_entry F.slot_set_add hT F.entry_set_add ?_ (F.args_set_add_2 _ _)
 unfold Builtin.«set.add» Builtin.Frozenset.oneOther
 simp only [List.isEmpty_nil, bind_assoc]
 unfold Builtin.Frozenset.addrOf setAdd
 refine wpAny_bind (wpAny_pure ?_)
 try dsimp only
 refine wpAny_bind (wpAny_pure ?_)
 try dsimp only
 refine wpAny_bind ?_
 refine wpAny_holding ?_
 refine wpAny_bind (hash_true ?_)
 unfold setAddHashed setAddHashedIn
 refine wpAny_holding (wpAny_bind (wpAny_setState_of hD rfl (fits1 led) ?_))
 dsimp only
 rw [show byScan (.bool true) #[(1, .bool true)] = true by decide +kernel]
 simp only [↓reduceIte]
 unfold setAddByScan
 refine wpAny_bind ?_
 refine wpAny_bind (wpAny_rule ?_)
 refine wpAny_bind ?_
 show wpAny _ _ (setScanFrom D (.bool true) 1 true [(1, .bool true)] 0) _ _ _
 unfold setScanFrom
 simp only [beq_self_eq_true, if_true]
 unfold setEpoch
 refine wpAny_bind (wpAny_bind (wpAny_setState_of hD rfl (fits1 led) (wpAny_pure ?_)))
 refine wpAny_bind (m := eqBool (.bool true) (.bool true)) (wpAny_holding (wpAny_bind (wpAny_rule (wpAny_pure ?_))))
 exact wpAny_pure (wpAny_pure (wpAny_pure (wpAny_pure ⟨_, rfl, h⟩)))
end
end
section
theorem slot_seti_next : Slot "set_iterator" "__next__" "set_iterator.__next__" :=
 .of (owner := "set_iterator") (n := "__next__") (by rw [typeLookup_type, builtinLookup_eq_fast]; kernel_rfl) (by decide +kernel) (by decide +kernel) (by decide +kernel)
  (by first | exact .inl (by decide +kernel) | exact .inr (by decide +kernel)) (by rw [isSubtype_type]; kernel_rfl)
theorem entry_seti_next : entryFor table "set_iterator.__next__" = some Builtin.«set_iterator.__next__» := entryFor_of_tree (by kernel_rfl)
theorem args_seti_next (a : Value) : argsOk "set_iterator.__next__" ⟨[a], []⟩ := by unfold argsOk; kernel_rfl
theorem entry_set_iter : entryFor table "set.__iter__" = some Builtin.«frozenset.__iter__» :=
 entryFor_alias (id' := "frozenset.__iter__") (by kernel_rfl) (by first | rfl | decide +kernel | (unfold String.splitOn; simp +decide [String.splitOnAux])) (by decide +kernel) (by kernel_rfl)
noncomputable def IterObj (k i : Int) (D : Addr) : Obj := { cls := .type "set_iterator", data := .fields #[rawInt k, rawInt i, .ref D, rawInt 1, rawInt 1] }
section
variable {prog : Program} {w : World} {A : Around} {E : Value → Shared → Prop} {s : Shared}
theorem seti_drawn {D : Addr} {led : Bool} {Q : Bool → Shared → Prop} (hD : s.heap.get? D = some (S1 led)) (h : Q false s) : wpAny (model prog w) A (setDrawn D) Q E s := by
 unfold setDrawn
 refine wpAny_bind (wpAny_setState_of hD rfl (fits1 led) ?_)
 dsimp only
 unfold setsByText
 refine wpAny_bind (wpAny_bind (wpAny_askSetting (wpAny_pure (wpAny_pure ?_))))
 have e : ∀ b : Bool, (!b && (!(T1 led).plain && decide ((#[((1 : Int), Value.bool true)]).size > 1))) = false := fun b => by rw [plain1Z]; simp
 exact (congrArg (fun x => Q x s) (e ((model prog w).w.params.followText "set-order"))).mpr h
theorem set_iter {D : Addr} {led : Bool} {Q : Value → Shared → Prop} (hD : s.heap.get? D = some (S1 led))
  (h : Q (.ref s.heap.objs.size) { s with heap := s.heap.push (IterObj 0 0 D) }) : wpAny (model prog w) A (pyIter (.ref D)) Q E s := by
 have hT : s.TypeIs (.ref D) "set" := ⟨_, hD, rfl⟩
 refine wpAny_pyIter_slot hT F.slot_set_iter (wpAny_call_entry F.slot_set_iter hT entry_set_iter ?_ (F.args_set_iter_1 _))
 unfold Builtin.«frozenset.__iter__»
 refine wpAny_bind (wpAny_pure (a := D) ?_)
 unfold Builtin.Frozenset.sizeOf setEntries
 refine wpAny_bind (wpAny_bind (wpAny_bind (wpAny_setState_of hD rfl (fits1 led) (wpAny_pure (wpAny_pure ?_)))))
 refine wpAny_bind (seti_drawn hD ?_)
 simp only [Bool.false_eq_true, if_false]
 refine wpAny_bind (wpAny_pure ?_)
 unfold setEpoch
 refine wpAny_bind (wpAny_bind (wpAny_setState_of hD rfl (fits1 led) (wpAny_pure ?_)))
 unfold newFields
 refine wpAny_bind (wpAny_newObj_type (wpAny_pure ⟨_, rfl, "set_iterator", _, ⟨_, Heap.get?_push_size _ rfl, rfl⟩, slot_seti_next.lookup, h⟩))
theorem below0 : SetTable.below #[1] 0 = 0 := by decide +kernel
theorem place1 (led : Bool) : (T1 led).place = #[1] := by cases led <;> decide +kernel
theorem pick1 (f : Nat → Nat) (x : Int × Value) : pickOrder f #[x] = #[x] := by
 unfold pickOrder
 show pickOrder.go f 1 0 [x] #[] = #[x]
 unfold pickOrder.go
 simp only [List.length_singleton, Nat.mod_one, List.getElem?_cons_zero]
 rfl
theorem set_walk1 {D : Addr} {led : Bool} {Q : Array (Int × Value) → Shared → Prop} (hD : s.heap.get? D = some (S1 led)) (hb : w.params.followText "set-order" = true) (h : Q #[(1, .bool true)] s) : wpAny (model prog w) A (setWalk D) Q E s := by
 unfold setWalk
 refine wpAny_bind (wpAny_setState_of hD rfl (fits1 led) ?_)
 dsimp only
 unfold setsByText
 refine wpAny_bind (wpAny_bind (wpAny_askSetting (wpAny_pure ?_)))
 show wpAny _ _ (if w.params.followText "set-order" = true then _ else _) _ _ _
 rw [if_pos hb]
 refine wpAny_bind (wpAny_askSetting (wpAny_pure ?_))
 rw [pick1]; exact h
theorem set_nextG {D : Addr} {led : Bool} {slot given : Nat} {r : Option (Value × Nat)} {Q : Option (Value × Nat) → Shared → Prop} (hD : s.heap.get? D = some (S1 led)) (hled : led = !w.params.followText "set-order")
  (h1 : led = false → r = ((#[((1 : Int), Value.bool true)])[given]?).map fun e => (e.2, slot))
  (h2 : led = true → r = match (#[((1 : Int), Value.bool true)])[SetTable.below (T1 true).place slot]?, (T1 true).place[SetTable.below (T1 true).place slot]? with | some (_, x), some j => some (x, j + 1) | _, _ => none)
  (h : Q r s) : wpAny (model prog w) A (setNext D slot given 1) Q E s := by
 unfold setNext
 refine wpAny_bind (wpAny_setState_of hD rfl (fits1 led) ?_)
 dsimp only
 unfold setsByText
 refine wpAny_bind (wpAny_bind (wpAny_askSetting (wpAny_pure ?_)))
 cases hb : w.params.followText "set-order" with
 | true =>
  rw [hb] at hled
  have hl : led = false := hled
  show wpAny _ _ (if w.params.followText "set-order" = true then _ else _) _ _ _
  rw [if_pos hb]
  refine wpAny_ite ?_
  rw [if_neg (by decide)]
  refine wpAny_bind (set_walk1 hD hb (wpAny_pure ?_))
  rw [← h1 hl]; exact h
 | false =>
  rw [hb] at hled
  have hl : led = true := hled
  subst hl
  show wpAny _ _ (if w.params.followText "set-order" = true then _ else _) _ _ _
  rw [if_neg (by rw [hb]; exact Bool.false_ne_true)]
  refine wpAny_ite ?_
  split
  ·rename_i hc; exact absurd hc (by decide +kernel)
  ·refine wpAny_bind ?_
   have e : ∀ (c : Bool) {Q : Unit → Shared → Prop}, c = false → Q () s → wpAny (model prog w) A (if c = true then unsupported "set:maker-not-led" else pure ()) Q E s := fun c Q hc hq => by rw [hc]; exact wpAny_pure hq
   refine e (!(T1 true).led && !(#[((1 : Int), Value.bool true)]).isEmpty) (by decide +kernel) (wpAny_pure ?_)
   exact (congrArg (fun x => Q x s) (h2 rfl)).mp h
theorem seti_item {I D : Addr} {led : Bool} {Q : Option Value → Shared → Prop} (hI : s.heap.get? I = some (IterObj 0 0 D)) (hD : s.heap.get? D = some (S1 led)) (hled : led = !w.params.followText "set-order")
  (h : ∀ h' k, h'.get? I = some (IterObj k 1 D) → ((k = 0 ∧ led = false) ∨ (k = 2 ∧ led = true)) → Heap.SameBut I s.heap h' → Q (some (.bool true)) { s with heap := h' }) : wpAny (model prog w) A (pyNext (.ref I)) Q E s := by
 have hT : s.TypeIs (.ref I) "set_iterator" := ⟨_, hI, rfl⟩
 unfold pyNext
 refine wpAny_bind (wpAny_attempt (wpAny_callSpecial?_slot (name := Str.ofString "__next__") hT slot_seti_next
  (wpAny_call_entry slot_seti_next hT entry_seti_next ?_ (args_seti_next _))))
 unfold Builtin.«set_iterator.__next__»
 refine wpAny_bind (wpAny_pure (a := (Value.ref I, ([] : List Value))) ?_)
 refine wpAny_bind (wpAny_fieldsOf hI rfl ?_)
 show wpAny _ _ (setEntries D >>= _) _ _ _
 unfold setEntries
 refine wpAny_bind (wpAny_bind (wpAny_setState_of hD rfl (fits1 led) (wpAny_pure ?_)))
 show wpAny _ _ (if (((1 : Nat) : Int) != 1) = true then _ else _) _ _ _
 refine wpAny_ite ?_
 rw [if_neg (by decide)]
 show wpAny _ _ (setNext D 0 0 1 >>= _) _ _ _
 refine wpAny_bind (set_nextG (r := some (.bool true, if led = true then 2 else 0)) hD hled (fun e => by rw [e]; rfl) (fun e => by rw [e]; decide +kernel) ?_)
 show wpAny _ _ (setField (.ref I) 0 (rawInt ((if led = true then 2 else 0 : Nat) : Int)) >>= _) _ _ _
 refine wpAny_bind (wpAny_setField_rec hI (by simp) fun h₁ hI₁ hs₁ => ?_)
 show wpAny _ _ (setField (.ref I) 1 (rawInt (0 + 1)) >>= _) _ _ _
 refine wpAny_bind (wpAny_setField_rec hI₁ (by simp) fun h₂ hI₂ hs₂ => ?_)
 refine wpAny_pure ⟨_, rfl, wpAny_pure (h h₂ ((if led = true then 2 else 0 : Nat) : Int) hI₂ ?_ ⟨hs₂.1.trans hs₁.1, fun b hb => (hs₂.2 b hb).trans (hs₁.2 b hb)⟩)⟩
 cases led
 ·exact .inl ⟨rfl, rfl⟩
 ·exact .inr ⟨rfl, rfl⟩
theorem seti_end {I D : Addr} {led : Bool} {k : Int} {Q : Option Value → Shared → Prop} (hh : A.handled = none) (hI : s.heap.get? I = some (IterObj k 1 D)) (hk : (k = 0 ∧ led = false) ∨ (k = 2 ∧ led = true)) (hD : s.heap.get? D = some (S1 led)) (hled : led = !w.params.followText "set-order")
  (h : ∀ h', Heap.ExtBut I s.heap h' → Q none { s with heap := h' }) : wpAny (model prog w) A (pyNext (.ref I)) Q E s := by
 have hT : s.TypeIs (.ref I) "set_iterator" := ⟨_, hI, rfl⟩
 unfold pyNext
 refine wpAny_bind (wpAny_attempt (wpAny_callSpecial?_slot (name := Str.ofString "__next__") hT slot_seti_next
  (wpAny_call_entry slot_seti_next hT entry_seti_next ?_ (args_seti_next _))))
 unfold Builtin.«set_iterator.__next__»
 refine wpAny_bind (wpAny_pure (a := (Value.ref I, ([] : List Value))) ?_)
 refine wpAny_bind (wpAny_fieldsOf hI rfl ?_)
 show wpAny _ _ (setEntries D >>= _) _ _ _
 unfold setEntries
 refine wpAny_bind (wpAny_bind (wpAny_setState_of hD rfl (fits1 led) (wpAny_pure ?_)))
 show wpAny _ _ (if (((1 : Nat) : Int) != 1) = true then _ else _) _ _ _
 refine wpAny_ite ?_
 rw [if_neg (by decide)]
 show wpAny _ _ (setNext D k.toNat 1 1 >>= _) _ _ _
 refine wpAny_bind (set_nextG (r := none) hD hled (fun e => rfl) (fun e => ?_) ?_)
 ·rcases hk with ⟨_, e'⟩ | ⟨rfl, _⟩
  ·rw [e] at e'; cases e'
  ·decide +kernel
 show wpAny _ _ (setField (.ref I) 2 .none >>= _) _ _ _
 refine wpAny_bind (wpAny_setField_rec hI (by simp) fun h₁ hI₁ hs₁ => ?_)
 show wpAny _ _ (newExc (.type "StopIteration") [] >>= _) _ _ _
 refine wpAny_bind ?_
 simp only [newExc, newTuple]
 refine wpAny_bind (wpAny_newObj_type ?_ (by size_fits))
 refine wpAny_bind (m := firstArgMember _ _) (wpAny_of_eq (a := Value.none) (by first | rfl | (simp only [firstArgMember]; rfl)) ?_)
 refine wpAny_newObj_type ?_ (by size_fits)
 simp only [raiseNew]
 refine wpAny_bind (wpAny_handled ?_)
 first | rw [show A.in1.handled = none from hh] | rw [hh]
 refine wpAny_bind (wpAny_pure (wpAny_throw ?_))
 refine wpAny_bind (wpAny_isInstance (T := "StopIteration") (b := true) ⟨_, Heap.get?_push_size _ rfl, rfl⟩ isSubtype_stop ?_)
 exact wpAny_pure (h _ ((hs₁.extBut.push _).push _))
theorem unpack_set1 {D : Addr} {led : Bool} {Q : List Value → Shared → Prop} (hh : A.handled = none) (hD : s.heap.get? D = some (S1 led)) (hled : led = !w.params.followText "set-order")
  (h : ∀ h', Keeps s.heap h' → Q [.bool true] { s with heap := h' }) : wpAny (model prog w) A (unpackItems (.ref D) 1 none) Q E s := by
 have hT : s.TypeIs (.ref D) "set" := ⟨_, hD, rfl⟩
 have hne : D ≠ s.heap.objs.size := Nat.ne_of_lt (Heap.lt_size hD)
 unfold unpackItems notIterableAtAll
 refine wpAny_bind (wpAny_bind (wpAny_specialOf hT F.slot_set_iter.lookup ?_))
 simp only [Option.isSome_some, if_true]
 refine wpAny_pure ?_
 simp only [Bool.false_eq_true, if_false]
 refine wpAny_bind (wpAny_holding (set_iter hD ?_))
 try dsimp only
 refine wpAny_bind (wpAny_holding ?_)
 unfold draw
 have hI : (s.heap.push (IterObj 0 0 D)).get? s.heap.objs.size = some (IterObj 0 0 D) := Heap.get?_push_size _ rfl
 have hD1 : (s.heap.push (IterObj 0 0 D)).get? D = some (S1 led) := Heap.get?_push_of_some _ hD
 refine wpAny_bind (seti_item (s := { s with heap := s.heap.push (IterObj 0 0 D) }) hI hD1 hled fun h₁ k hI₁ hk hs₁ => ?_)
 dsimp only
 refine wpAny_bind (wpAny_holding ?_)
 unfold draw
 refine wpAny_pure (wpAny_pure ?_)
 refine wpAny_ite ?_
 rw [if_neg (by decide)]
 refine wpAny_bind (wpAny_holding (seti_end hh hI₁ hk ((hs₁.2 D hne).trans hD1) hled fun h₂ hx => ?_))
 simp only [Option.isSome_none, Bool.false_eq_true, if_false]
 refine wpAny_pure (h h₂ fun b o e => ?_)
 have hb : b ≠ s.heap.objs.size := Nat.ne_of_lt (Heap.lt_size e)
 exact hx b o hb ((hs₁.2 b hb).trans (Heap.get?_push_of_some _ e))
end
end
section
theorem compTurn_set1 (elt target iter : Expr) (scope : Scope) (pos : Pos) (it acc : Value) (env : Env) :
  compTurn (.SetComp elt [⟨target, iter, [], 0⟩] scope pos) 0 it acc env = (standAt iter.pos >>= fun _ => pyNext it >>= fun r => match r with
   | none => pure (.done .next)
   | some v => letOwnedTupleGo target it v >>= fun _ => assign target env v >>= fun _ =>
    (eval elt env >>= fun x => standAt elt.pos >>= fun _ => call (.builtin "set.add") [acc, x] >>= fun _ => pure ()) >>= fun _ =>
     again (.compLoop (.SetComp elt [⟨target, iter, [], 0⟩] scope pos) 0 it acc env)) := by rfl
section
variable {prog : Program} {w : World} {A : Around} {E : Value → Shared → Prop} {R : Result → Shared → Prop} {s : Shared}
theorem codeAny_compStart_set {elt target iter ifs rest scope pos it acc env}
  (h0 : codeAny (model prog w) A (.compLoop (.SetComp elt (⟨target, iter, ifs, 0⟩ :: rest) scope pos) 0 it acc env) R s)
  (h : wpAny (model prog w) A (pyIter it) (fun it' s' => codeAny (model prog w) A (.compLoop (.SetComp elt (⟨target, iter, ifs, 0⟩ :: rest) scope pos) 0 it' acc env) R s')
   (notedBy (model prog w) A env fun x s' => R (.error x) s') s) :
  codeAny (model prog w) A (.compStart (.SetComp elt (⟨target, iter, ifs, 0⟩ :: rest) scope pos) 0 it acc env) R s := by
 refine codeAny_of_tree ?_
 show wpAny _ _ ((compStart (.SetComp elt (⟨target, iter, ifs, 0⟩ :: rest) scope pos) 0 it acc env).onRaise (fun x => do noteFrame x env; standAt theWindowsPlace)) _ _ s
 refine wpAny_notedAt ?_
 unfold compStart
 show wpAny _ _ (ask >>= _) _ _ s
 refine wpAny_bind (wpAny_askSetting (wpAny_ite ?_))
 split
 ·first
   | exact wpAny_bind (wpAny_pure (wpAny_pure (And.intro rfl h0)))
   | exact wpAny_pure (And.intro rfl h0)
 ·first
   | exact wpAny_bind (wpAny_rule (wpAny_bind (wpAny_standAt (wpAny_bind (wpAny_mono h (fun it' s' h' => wpAny_pure (And.intro rfl h')) fun _ _ x => x)))))
   | (refine wpAny_bind (wpAny_rule ?_); show wpAny _ _ (standAt iter.pos >>= _) _ _ s; exact wpAny_bind (wpAny_standAt (wpAny_bind (wpAny_mono h (fun it' s' h' => wpAny_pure (And.intro rfl h')) fun _ _ x => x))))

theorem codeAny_compLoop_set {elt target iter : Expr} {scope : Scope} {pos : Pos} {it acc : Value} {env : Env} (I : Nat → Shared → Prop)
  (turn : ∀ n s, I n s → wpAny (model prog w) A (pyNext it) (fun r s₁ => match r with
   | none => R (.ok .next) s₁
   | some v => wpAny (model prog w) A (assign target env v) (fun _ s₂ => wpAny (model prog w) A (eval elt env) (fun x s₃ =>
     wpAny (model prog w) A (call (.builtin "set.add") [acc, x]) (fun _ s₄ => ∃ m, m < n ∧ I m s₄) (notedBy (model prog w) A env fun e s' => R (.error e) s') s₃)
     (notedBy (model prog w) A env fun e s' => R (.error e) s') s₂) (notedBy (model prog w) A env fun e s' => R (.error e) s') s₁) (notedBy (model prog w) A env fun e s' => R (.error e) s') s)
  (n : Nat) (h : I n s) (ht : ∀ v, letOwnedTupleGo target it v = pure () := by intro _; rfl) :
  codeAny (model prog w) A (.compLoop (.SetComp elt [⟨target, iter, [], 0⟩] scope pos) 0 it acc env) R s := by
 refine codeAny_loop rfl I (fun n s hI => ?_) n h
 show wpAny _ _ ((compTurn (.SetComp elt [⟨target, iter, [], 0⟩] scope pos) 0 it acc env).onRaise (fun x => do noteFrame x env; theTreesLotGoes x)) _ _ s
 refine wpAny_noted ?_
 rw [compTurn_set1]
 refine wpAny_bind (wpAny_standAt (wpAny_bind (wpAny_mono (turn n s hI) (fun r s₁ h₁ => ?_) fun _ _ h' => h')))
 cases r with
 | none => exact wpAny_pure h₁
 | some v =>
  refine wpAny_bind (wpAny_of_eq (ht v) ?_)
  exact wpAny_bind (wpAny_mono h₁ (fun _ s₂ h₂ => wpAny_bind (wpAny_bind (wpAny_mono h₂ (fun x s₃ h₃ => wpAny_bind (wpAny_standAt (wpAny_bind (wpAny_mono h₃
   (fun _ s₄ h₄ => wpAny_pure (wpAny_pure ⟨rfl, h₄⟩)) fun _ _ h' => h')))) fun _ _ h' => h'))) fun _ _ h' => h')
end
noncomputable def SX (led : Bool) : Nat → Obj
 | 0 => S0 led
 | _ + 1 => S1 led
section
variable {prog : Program} {w : World} {A : Around} {E : Value → Shared → Prop} {s : Shared}
theorem add_trueX {D : Addr} {led : Bool} {i : Nat} {Q : Value → Shared → Prop} (hD : s.heap.get? D = some (SX led i))
  (h : ∀ h' tk, Heap.SameBut D s.heap h' → h'.get? D = some (SX led (i + 1)) → Q .none { s with heap := h', toks := tk }) :
  wpAny (model prog w) A (call (.builtin "set.add") [.ref D, .bool true]) Q E s := by
 cases i with
 | zero => exact add_true0 hD fun h' e k => h h' _ k e
 | succ i => exact add_true1 hD (h s.heap _ ⟨rfl, fun _ _ => rfl⟩ hD)
end
open PyProof.Rows.LCg in
noncomputable def RestS (prog : Program) (w : World) (A : Around) (h₀ : Heap) (L : Addr) (m : Str → Option Value) (env : Env) (elt : Expr) (x : Str) (scope : Scope) (cl : List (Str × Addr)) (s : Shared) (S : List (Addr × Obj) → Prop) (P : Nat → Value → Prop)
  (Fin : List (Addr × Obj) → Prop) : Nat → Nat → List (Addr × Obj) → Prop
 | 0, _, news => Fin news
 | k + 1, i, news => ∀ v I oI C oC D m₂ h tk (E' : Value → Shared → Prop), P i v → NsObj oC m₂ → m₂ x = some v → Fr h₀ L h m → News h₀ L h ((I, oI) :: (C, oC) :: (D, SX (!w.params.followText "set-order") i) :: news) → Off3 I C D news → ((@Ne Nat I C) ∧ (@Ne Nat I D) ∧ (@Ne Nat C D)) →
   wpAny (model prog w) A (eval elt (compEnvC scope cl C env)) (CompEnd h₀ L m { s with heap := h, toks := tk } I oI C oC D (SX (!w.params.followText "set-order") i) S (fun y news' => y = .bool true ∧ RestS prog w A h₀ L m env elt x scope cl s S P Fin k (i + 1) news')) E' { s with heap := h, toks := tk }
section
open PyProof.Rows.LCg
variable {prog : Program} {w : World} {A : Around} {E : Value → Shared → Prop} {s : Shared} {h₀ : Heap} {L : Addr} {m : Str → Option Value} {env : Env}
end
section
open PyProof.Rows.LCg
noncomputable section
namespace cblock_S
noncomputable def zP (prog : Program) (w : World) (A : Around) (E : Value → Shared → Prop) (h₀ : Heap) (L : Addr) (m : Str → Option Value) (env : Env) (elt iter : Expr) (x : Str) (px : Pos) (scope : Scope) (cl : List (Str × Addr)) (pos : Pos) (s₂ : Shared) (I : Addr) (fp : List Addr) (n : Nat) (P : Nat → Value → Prop) (St : Nat → Heap → Prop) (S : List (Addr × Obj) → Prop) (news : List (Addr × Obj)) (Fin : List (Addr × Obj) → Prop) (RR : Value → Addr → Result → Shared → Prop) : Prop := ∀ (W : Walks prog w A I fp [I] n P St) (hsz : n ≤ sizeLine) (hIo : ∀ i h, St i h → ∃ o, h.get? I = some o) (hSt : ∀ i h h' o nw, St i h → h.get? I = some o → h'.get? I = some o → (∀ b o, h₀.get? b = some o → h'.get? b = some o) → News h₀ L h' nw → S nw → St i h') (hcell : ∀ y ∈ scope.names, y.2 ≠ .cell) (hkind : scope.kind = .function) (hx : scope.names.lookup x = some .local) (hst : St 0 s₂.heap) (hfp : ∀ b ∈ fp, b < s₂.heap.objs.size) (F : Fr h₀ L s₂.heap m) (N : News h₀ L s₂.heap news) (hIL : L ≠ I) (hI₀ : h₀.get? I = none) (off : ∀ p ∈ news, p.1 ≠ I) (hS : S news) (R : RestS prog w A h₀ L m env elt x scope cl s₂ S P Fin n 0 news) (hRR : ∀ D C h tk m' news', Fr h₀ L h m → News h₀ L h ((D, SX (!w.params.followText "set-order") n) :: news') → Off1 D news' → h.Ns C m' → h₀.get? C = none → h₀.get? D = none → C ≠ L → D ≠ L → C ≠ D → (∀ p ∈ news', p.1 ≠ C) → Fin news' → RR (.ref D) C (.ok .next) { s₂ with heap := h, toks := tk }), wpAny (model prog w) A (newSet (.type "set")) (fun acc s₃ => wpAny (model prog w) A (newFunctionEnv scope env.globals cl [] env.qual none .none (some env)) (fun cenv s₄ =>
   codeAny (model prog w) A (.compStart (.SetComp elt [⟨.Name x px, iter, [], 0⟩] scope pos) 0 (.ref I) acc { cenv with scope := relabel scope env }) (RR acc cenv.locals) s₄) E s₃) E s₂
noncomputable def zT (x : YY) : Prop := zP (x 14 0) (x 1 1) (x 15 2) (x 9 3) (x 2 4) (x 0 5) (x 6 6) (x 16 7) (x 17 8) (x 17 9) (x 12 10) (x 24 11) (x 25 12) (x 26 13) (x 24 14) (x 5 15) (x 0 16) (x 19 17) (x 0 18) (x 20 19) (x 21 20) (x 27 21) (x 7 22) (x 27 23) (x 28 24)
noncomputable def zC := pickY zT
@[irreducible] def prog : Program := zC 14 0
@[irreducible] def w : World := zC 1 1
@[irreducible] def A : Around := zC 15 2
@[irreducible] def E : Value → Shared → Prop := zC 9 3
@[irreducible] def h₀ : Heap := zC 2 4
def L : Addr := zC 0 5
def m : Str → Option Value := zC 6 6
@[irreducible] def env : Env := zC 16 7
@[irreducible] def elt : Expr := zC 17 8
@[irreducible] def iter : Expr := zC 17 9
def x : Str := zC 12 10
def px : Pos := zC 24 11
@[irreducible] def scope : Scope := zC 25 12
@[irreducible] def cl : List (Str × Addr) := zC 26 13
def pos : Pos := zC 24 14
@[irreducible] def s₂ : Shared := zC 5 15
def I : Addr := zC 0 16
@[irreducible] def fp : List Addr := zC 19 17
def n : Nat := zC 0 18
def P : Nat → Value → Prop := zC 20 19
def St : Nat → Heap → Prop := zC 21 20
@[irreducible] def S : List (Addr × Obj) → Prop := zC 27 21
@[irreducible] def news : List (Addr × Obj) := zC 7 22
@[irreducible] def Fin : List (Addr × Obj) → Prop := zC 27 23
@[irreducible] def RR : Value → Addr → Result → Shared → Prop := zC 28 24
theorem zA (h : zP prog w A E h₀ L m env elt iter x px scope cl pos s₂ I fp n P St S news Fin RR) : ∀ y, zT y := by with_unfolding_all exact pickY_spec zT h
theorem zK : zP prog w A E h₀ L m env elt iter x px scope cl pos s₂ I fp n P St S news Fin RR := by
 intro W hsz hIo hSt hcell hkind hx hst hfp F N hIL hI₀ off hS R hRR
 unfold newSet setsByText
 refine wpAny_bind (wpAny_bind (wpAny_askSetting (wpAny_pure ?_)))
 dsimp only
 refine wpAny_newObj_type (wpAny_newFunctionEnv hcell (by intro y hy; simp at hy) (fun h₁ hns₁ hsb₁ => ?_) hkind)
 dsimp only at hns₁ hsb₁ ⊢
 generalize hH2 : s₂.heap.push { cls := Value.type "set", data := Data.set #[] 0 (SetTable.fresh 0 0 !(model prog w).w.params.followText "set-order") } = H2 at hns₁ hsb₁ ⊢
 have hC : H2.objs.size = s₂.heap.objs.size + 1 := by rw [← hH2, Heap.size_push]
 have hDC : s₂.heap.objs.size ≠ H2.objs.size := by rw [hC]; exact Nat.ne_of_lt (Nat.lt_succ_self _)
 have below : ∀ b, b < s₂.heap.objs.size → b ≠ H2.objs.size ∧ b ≠ s₂.heap.objs.size := fun b hb => ⟨by rw [hC]; exact Nat.ne_of_lt (Nat.lt_succ_of_lt hb), Nat.ne_of_lt hb⟩
 have hDf : s₂.heap.objs.size ∉ fp := fun hm => Nat.lt_irrefl _ (hfp _ hm)
 have hCf : H2.objs.size ∉ fp := fun hm => by have := hfp _ hm; rw [hC] at this; exact Nat.lt_irrefl _ (Nat.lt_of_succ_lt this)
 have hIf : I ∈ fp := W.sub I (List.mem_singleton.mpr rfl)
 have hIlt : I < s₂.heap.objs.size := hfp I hIf
 have old : ∀ b o, s₂.heap.get? b = some o → h₁.get? b = some o := fun b o e => hsb₁.extBut b o (below b (Heap.lt_size e)).1 (Heap.get?_push_of_some _ (hH2 ▸ Heap.get?_push_of_some _ e))
 have hacc : h₁.get? s₂.heap.objs.size = some (S0 (!w.params.followText "set-order")) := hsb₁.extBut _ _ hDC (Heap.get?_push_of_some _ (hH2 ▸ Heap.get?_push_size _ rfl))
 have hst₁ : St 0 h₁ := W.frame _ _ _ hst fun b _ o e => old b o e
 have fresh : ∀ a, s₂.heap.objs.size ≤ a → s₂.heap.get? a = none := fun a ha => by
  cases e : s₂.heap.get? a with
  | none => rfl
  | some o' => exact absurd (Heap.lt_size e) (Nat.not_lt.mpr ha)
 have fresh₀ : ∀ a, s₂.heap.objs.size ≤ a → h₀.get? a = none := fun a ha => by
  cases e : h₀.get? a with
  | none => rfl
  | some o' => have := F.keep a o' e; rw [fresh a ha] at this; cases this
 have hD₀ : h₀.get? s₂.heap.objs.size = none := fresh₀ _ (Nat.le_refl _)
 have hC₀ : h₀.get? H2.objs.size = none := fresh₀ _ (by rw [hC]; exact Nat.le_succ _)
 have hLlt : L < s₂.heap.objs.size := F.ns.lt
 have hDL : s₂.heap.objs.size ≠ L := Ne.symm (below L hLlt).2
 have hCL : H2.objs.size ≠ L := Ne.symm (below L hLlt).1
 have hCI : I ≠ H2.objs.size := (below I hIlt).1
 have hDI : I ≠ s₂.heap.objs.size := (below I hIlt).2
 have off₀ : Off3 I H2.objs.size s₂.heap.objs.size news := Off3.of fun p hp => ⟨off p hp, (below _ (Heap.lt_size (N p hp).1)).1, (below _ (Heap.lt_size (N p hp).1)).2⟩
 have loop : ∀ s₃ : Shared, s₃ = { s₂ with heap := h₁, toks := s₂.toks + ([] : List (Str × Value)).length } →
   codeAny (model prog w) A (.compLoop (.SetComp elt [⟨.Name x px, iter, [], 0⟩] scope pos) 0 (.ref I) (.ref s₂.heap.objs.size) (compEnvC scope cl H2.objs.size env))
    (RR (.ref s₂.heap.objs.size) H2.objs.size) s₃ := by
  rintro s₃ rfl
  refine codeAny_compLoop_set
   (fun k s' => ∃ h' tk i m' news', s' = { s₂ with heap := h', toks := tk } ∧ i ≤ n ∧ k = n + 1 - i ∧ St i h' ∧ Fr h₀ L h' m ∧ h'.Ns H2.objs.size m' ∧ News h₀ L h' ((s₂.heap.objs.size, SX (!w.params.followText "set-order") i) :: news') ∧
    Off3 I H2.objs.size s₂.heap.objs.size news' ∧ S news' ∧ RestS prog w A h₀ L m env elt x scope cl s₂ S P Fin (n - i) i news') ?_ (n + 1)
   ⟨h₁, _, 0, _, news, rfl, Nat.zero_le _, rfl, hst₁, F.keeps old, hns₁, fun p hp => ?_, off₀, hS, R⟩
  ·rintro k s' ⟨h', tk, i, m', news', rfl, hi, rfl, hst', F', hn', N', off', hS', R'⟩
   by_cases hlt : i < n
   ·obtain ⟨j, hj⟩ : ∃ j, n - i = j + 1 := ⟨n - i - 1, (Nat.sub_add_cancel (Nat.sub_pos_of_lt hlt)).symm⟩
    rw [hj] at R'
    refine W.item i _ _ _ hlt hst' fun v h₂ tk₂ hPv hst₂ hk₂ => ?_
    refine wpAny_assign_Name (wpAny_storeName_local (lookup_relabel_local hx) (hn'.at' fun o e => hk₂ _ o (by simpa using Ne.symm hCI) e) (fun h₃ hn₃ hs₃ => ?_) (by simp [compEnvC, relabel, hkind]))
    have hst₃ : St (i + 1) h₃ := W.frame _ _ _ hst₂ fun b hb o e => hs₃.extBut b o (fun q => hCf (by have q' : b = H2.objs.size := q; rw [← q']; exact hb)) e
    obtain ⟨oI, heI⟩ := hIo _ _ hst₃
    obtain ⟨oC, heC, hoC⟩ := ns_obj hn₃
    have F₃ : Fr h₀ L h₃ m := (fr_but F' hk₂ hIL hI₀).change hs₃ hCL hC₀
    have off3 := off'.mem
    have N₂ : News h₀ L h₂ ((s₂.heap.objs.size, SX (!w.params.followText "set-order") i) :: news') := news_but N' hk₂ fun p hp => by
     rcases List.mem_cons.mp hp with rfl | hp
     ·exact Ne.symm hDI
     ·exact (off3 p hp).1
    have N₃ : News h₀ L h₃ ((I, oI) :: (H2.objs.size, oC) :: (s₂.heap.objs.size, SX (!w.params.followText "set-order") i) :: news') := fun p hp => by
     rcases List.mem_cons.mp hp with rfl | hp
     ·exact ⟨heI, Ne.symm hIL, hI₀⟩
     ·rcases List.mem_cons.mp hp with rfl | hp
      ·exact ⟨heC, hCL, hC₀⟩
      ·have z := N₂ p hp
       refine ⟨hs₃.extBut _ _ ?_ z.1, z.2⟩
       rcases List.mem_cons.mp hp with rfl | hp
       ·exact hDC
       ·exact (off3 p hp).2.1
    refine wpAny_mono (R' v I oI H2.objs.size oC s₂.heap.objs.size _ h₃ _ _ hPv hoC (by simp) F₃ N₃ off' ⟨hCI, hDI, Ne.symm hDC⟩) (fun y s₄ h₄ => ?_) fun _ _ e => e
    obtain ⟨h₄, tk₄, news₄, rfl, F₄, N₄, off₄, hS₄, rfl, R₄⟩ := h₄
    have zI := (N₄ (I, oI) List.mem_cons_self).1
    have zC := (N₄ (H2.objs.size, oC) (List.mem_cons_of_mem _ List.mem_cons_self)).1
    have zD := (N₄ (s₂.heap.objs.size, SX (!w.params.followText "set-order") i) (List.mem_cons_of_mem _ (List.mem_cons_of_mem _ List.mem_cons_self))).1
    have N₄' : News h₀ L h₄ news₄ := fun p hp => N₄ p (List.mem_cons_of_mem _ (List.mem_cons_of_mem _ (List.mem_cons_of_mem _ hp)))
    have hst₄ : St (i + 1) h₄ := hSt _ _ _ _ _ hst₃ heI zI F₄.keep N₄' hS₄
    refine add_trueX zD fun h₅ tk₅ hs₅ hD₅ => ?_
    have off4 := off₄.mem
    refine ⟨n + 1 - (i + 1), nM hlt, h₅, tk₅, i + 1, _, news₄, rfl, hlt, rfl, W.frame _ _ _ hst₄ fun b hb o e => hs₅.extBut b o (fun q => hDf (q ▸ hb)) e, F₄.change hs₅ hDL hD₀,
     (hoC.ns zC).sameBut hs₅ (Ne.symm hDC), fun p hp => ?_, off₄, hS₄, ?_⟩
    ·rcases List.mem_cons.mp hp with rfl | hp
     ·exact ⟨hD₅, hDL, hD₀⟩
     ·exact ⟨hs₅.extBut _ _ (off4 p hp).2.2 (N₄' p hp).1, (N₄' p hp).2⟩
    ·rw [nN hj]
     exact R₄
   ·obtain rfl : i = n := Nat.le_antisymm hi (Nat.not_lt.mp hlt)
    rw [Nat.sub_self] at R'
    refine W.done _ _ _ hst' fun h₂ tk₂ hk₂ => ?_
    have off3 := off'.mem
    exact hRR _ _ h₂ tk₂ _ news' (fr_but F' hk₂ hIL hI₀) (news_but N' hk₂ fun p hp => by
     rcases List.mem_cons.mp hp with rfl | hp
     ·exact Ne.symm hDI
     ·exact (off3 p hp).1) off'.one (hn'.at' fun o e => hk₂ _ o (by simpa using Ne.symm hCI) e) hC₀ hD₀ hCL hDL (Ne.symm hDC) (fun p hp => (off3 p hp).2.1) R'
  ·rcases List.mem_cons.mp hp with rfl | hp
   ·exact ⟨hacc, hDL, hD₀⟩
   ·exact ⟨old _ _ (N p hp).1, (N p hp).2⟩
 exact codeAny_compStart_set (loop _ rfl) (W.self 0 _ _ _ hst₁ (loop _ rfl))
end cblock_S
end
end
section
open PyProof.Rows.LCg
variable {prog : Program} {w : World} {A : Around} {E : Value → Shared → Prop} {s : Shared} {h₀ : Heap} {L : Addr} {m : Str → Option Value} {env : Env}
theorem block_S {elt iter : Expr} {x : Str} {px : Pos} {scope : Scope} {cl : List (Str × Addr)} {pos : Pos} {s₂ : Shared} {I : Addr} {fp : List Addr} {n : Nat} {P : Nat → Value → Prop} {St : Nat → Heap → Prop} {S : List (Addr × Obj) → Prop} {news : List (Addr × Obj)} {Fin : List (Addr × Obj) → Prop} {RR : Value → Addr → Result → Shared → Prop} : cblock_S.zP prog w A E h₀ L m env elt iter x px scope cl pos s₂ I fp n P St S news Fin RR := cblock_S.zA cblock_S.zK (putY [⟨14, prog⟩, ⟨1, w⟩, ⟨15, A⟩, ⟨9, E⟩, ⟨2, h₀⟩, ⟨0, L⟩, ⟨6, m⟩, ⟨16, env⟩, ⟨17, elt⟩, ⟨17, iter⟩, ⟨12, x⟩, ⟨24, px⟩, ⟨25, scope⟩, ⟨26, cl⟩, ⟨24, pos⟩, ⟨5, s₂⟩, ⟨0, I⟩, ⟨19, fp⟩, ⟨0, n⟩, ⟨20, P⟩, ⟨21, St⟩, ⟨27, S⟩, ⟨7, news⟩, ⟨27, Fin⟩, ⟨28, RR⟩])
end
section
open PyProof.Rows.LCg
variable {prog : Program} {w : World} {A : Around} {E : Value → Shared → Prop} {s : Shared} {h₀ : Heap} {L : Addr} {m : Str → Option Value} {env : Env}
noncomputable def FinS (w : World) (h₀ : Heap) (L : Addr) (m : Str → Option Value) (s : Shared) (n : Nat) (Q : Value → Shared → Prop) (news : List (Addr × Obj)) : Prop :=
 ∀ D h tk, Fr h₀ L h m → News h₀ L h ((D, SX (!w.params.followText "set-order") n) :: news) → Off1 D news → Q (.ref D) { s with heap := h, toks := tk }
noncomputable def SetSrc (prog : Program) (w : World) (A : Around) (h₀ : Heap) (L : Addr) (m : Str → Option Value) (env : Env) (elt : Expr) (x : Str) (scope : Scope) (cl : List (Str × Addr)) (Q : Value → Shared → Prop) (xv : Value) (s₁ : Shared) : Prop :=
 ∃ ax its news, xv = .ref ax ∧ A.handled = none ∧ Fr h₀ L s₁.heap m ∧ News h₀ L s₁.heap news ∧ TupIn ax its news ∧ its.size ≤ sizeLine ∧
   ∀ h' : Heap, RestS prog w A h₀ L m env elt x scope cl { s₁ with heap := h' } (TupIn ax its) (fun i v => its[i]? = some v) (FinS w h₀ L m { s₁ with heap := h' } its.size Q) its.size 0 news
theorem SetSrc.intro {elt : Expr} {x : Str} {scope : Scope} {cl : List (Str × Addr)} {Q : Value → Shared → Prop} {ax : Addr} {its : Array Value} {n : Nat} {news : List (Addr × Obj)} {s₁ : Shared}
  (hh : A.handled = none) (F : Fr h₀ L s₁.heap m) (N : News h₀ L s₁.heap news) (hm : (ax, ({ cls := .type "tuple", data := .seq its n } : Obj)) ∈ news) (hz : its.size ≤ sizeLine)
  (R : ∀ h' : Heap, RestS prog w A h₀ L m env elt x scope cl { s₁ with heap := h' } (TupIn ax its) (fun i v => its[i]? = some v) (FinS w h₀ L m { s₁ with heap := h' } its.size Q) its.size 0 news) :
  SetSrc prog w A h₀ L m env elt x scope cl Q (.ref ax) s₁ := ⟨ax, its, news, rfl, hh, F, N, ⟨n, hm⟩, hz, R⟩
theorem SetComp_Tup {elt iter : Expr} {x : Str} {px : Pos} {scope : Scope} {cl : List (Str × Addr)} {pos : Pos} {Q : Value → Shared → Prop} (_F₀ : Fr h₀ L s.heap m)
  (hclos : closureFor scope env = pure cl) (hcell : ∀ z ∈ scope.names, z.2 ≠ .cell) (hkind : scope.kind = .function)
  (hnames : ∀ z ∈ scope.names, z.2 = .local → scope.names.lookup z.1 = some .local) (hx : scope.names.lookup x = some .local)
  (h : wpAny (model prog w) A (eval iter env) (SetSrc prog w A h₀ L m env elt x scope cl Q) E s)
  (hs : ∀ x, foldedSetIterable iter env x = pure x := by intro _; rfl) :
  wpAny (model prog w) A (eval (.SetComp elt [⟨.Name x px, iter, [], 0⟩] scope pos) env) Q E s := by
 show wpAny _ A (comprehension (.SetComp elt [⟨.Name x px, iter, [], 0⟩] scope pos) scope env _ (newSet (.type "set")) false (eval iter env)) _ _ s
 refine wpAny_comprehension_free (use := none) rfl hs hclos hkind hnames (wpAny_mono h (fun xv s₁ h₁ => ?_) fun _ _ e => e)
 obtain ⟨ax, its, news, rfl, hh, F, N, S, hsz, R⟩ := h₁
 have hl := S.tup N
 have hlt : ax < s₁.heap.objs.size := by obtain ⟨_, e, _⟩ := hl; exact Heap.lt_size e
 refine wpAny_pyIter_tuple hl ?_
 have up : ∀ b o, s₁.heap.get? b = some o → (s₁.heap.push { cls := .type "tuple_iterator", data := .fields #[.ref ax, .int 0 0] }).get? b = some o := fun b o e => Heap.get?_push_of_some _ e
 refine block_S (Walks.tuple hh s₁.heap.objs.size ax (Nat.ne_of_lt hlt) its) hsz (fun i h st => by obtain ⟨o, e, _⟩ := st.1; exact ⟨o, e⟩) tup_st hcell hkind hx ⟨⟨_, Heap.get?_push_size _ rfl, rfl, rfl⟩, tuple_push hl _⟩ (fun b hb => ?_)
  (F.keeps up) (N.grown up) (Nat.ne_of_lt F.ns.lt) (next_is_new F) (fun p hp => Nat.ne_of_lt (Heap.lt_size (N p hp).1)) S (R _) ?_
 ·show b < (s₁.heap.push _).objs.size
  rw [Heap.size_push]
  rcases List.mem_cons.mp hb with rfl | hb
  ·exact Nat.lt_succ_self _
  ·rw [List.mem_singleton.mp hb]; exact Nat.lt_succ_of_lt hlt
 ·intro D C h tk m' news' F' N' o1 hn hC₀ hD₀ hCL hDL hCD offC fin
  refine ⟨m', hn, fun h'' hs'' => fin D h'' tk (F'.change hs'' hCL hC₀) (fun p hp => ?_) o1⟩
  refine ⟨hs''.extBut _ _ ?_ (N' p hp).1, (N' p hp).2⟩
  rcases List.mem_cons.mp hp with rfl | hp
  ·exact Ne.symm hCD
  ·exact offC p hp
end
section
open PyProof.Rows.LCg
variable {prog : Program} {w : World} {A : Around} {s : Shared} {h₀ : Heap} {L : Addr} {m : Str → Option Value} {env : Env}
theorem RestS.zero {elt : Expr} {x : Str} {scope : Scope} {cl : List (Str × Addr)} {S : List (Addr × Obj) → Prop} {P : Nat → Value → Prop} {Fin : List (Addr × Obj) → Prop} {i : Nat} {news : List (Addr × Obj)} (h : Fin news) :
  RestS prog w A h₀ L m env elt x scope cl s S P Fin 0 i news := h
theorem RestS.succ {elt : Expr} {x : Str} {scope : Scope} {cl : List (Str × Addr)} {S : List (Addr × Obj) → Prop} {P : Nat → Value → Prop} {Fin : List (Addr × Obj) → Prop} {k i : Nat} {news : List (Addr × Obj)}
  (h : ∀ v I oI C oC D m₂ h tk (E' : Value → Shared → Prop), P i v → NsObj oC m₂ → m₂ x = some v → Fr h₀ L h m → News h₀ L h ((I, oI) :: (C, oC) :: (D, SX (!w.params.followText "set-order") i) :: news) → Off3 I C D news → ((@Ne Nat I C) ∧ (@Ne Nat I D) ∧ (@Ne Nat C D)) →
   wpAny (model prog w) A (eval elt (compEnvC scope cl C env)) (CompEnd h₀ L m { s with heap := h, toks := tk } I oI C oC D (SX (!w.params.followText "set-order") i) S (fun y news' => y = .bool true ∧ RestS prog w A h₀ L m env elt x scope cl s S P Fin k (i + 1) news')) E' { s with heap := h, toks := tk }) :
  RestS prog w A h₀ L m env elt x scope cl s S P Fin (k + 1) i news := h
end
section
variable {prog : Program} {w : World} {A : Around} {E : Value → Shared → Prop} {s : Shared} {h₀ : Heap} {L : Addr} {m : Str → Option Value} {env : Env}
theorem assign_set1 {x : Str} {px pos : Pos} {k : Nat} {D : Addr} {n : Nat} {news : List (Addr × Obj)} {Q : Unit → Shared → Prop} (hh : A.handled = none) (F : Fr h₀ L s.heap m) (N : News h₀ L s.heap news)
  (hD : (D, SX (!w.params.followText "set-order") (n + 1)) ∈ news)
  (h : ∀ h', Fr h₀ L h' m → News h₀ L h' news → wpAny (model prog w) A (assign (.Name x px) env (.bool true)) Q E { s with heap := h' }) :
  wpAny (model prog w) A (assign (.Tuple [.Name x px] k pos) env (.ref D)) Q E s := by
 rw [arm_assign_Tuple]
 refine wpAny_bind (wpAny_standAt ?_)
 unfold unpack
 refine wpAny_bind (wpAny_holding (unpack_set1 hh (N _ hD).1 rfl fun h' K => ?_))
 show wpAny _ _ (assignInOrder [assign (.Name x px) env] [.bool true]) _ _ _
 unfold assignInOrder
 exact wpAny_bind (wpAny_holding (wpAny_mono (h h' (fr_keeps F K) (news_keeps N K)) (fun _ _ q => wpAny_pure q) fun _ _ e => e))
end
end
section
section
open PyProof.Rows.LCg PyProof.Rows.LCt
variable {prog : Program} {w : World} {A : Around} {E : Value → Shared → Prop} {s : Shared} {h₀ : Heap} {L : Addr} {m : Str → Option Value} {env : Env}
noncomputable def TestEnd (b : Bool) (h₀ : Heap) (L : Addr) (m : Str → Option Value) (news : List (Addr × Obj)) (s : Shared) (ok : Bool) (s' : Shared) : Prop :=
 ok = b ∧ ∃ h' tk, s' = { s with heap := h', toks := tk } ∧ Fr h₀ L h' m ∧ News h₀ L h' news
theorem test_end {b ok : Bool} {h' : Heap} {tk : Nat} {news news' : List (Addr × Obj)} (F : Fr h₀ L h' m) (N : News h₀ L h' news') (p : ok = b) (sub : ∀ q ∈ news, q ∈ news') : TestEnd b h₀ L m news s ok { s with heap := h', toks := tk } :=
 ⟨p, h', tk, rfl, F, fun q hq => N q (sub q hq)⟩
theorem filterT {ct : Expr} {x : Str} {px : Pos} {scope : Scope} {cl : List (Str × Addr)} {Fin : List Value → List (Addr × Obj) → Prop} {ax : Addr} {its : Array Value} {news : List (Addr × Obj)} (p : Value → Bool)
  (hkind : scope.kind = .function) (hx : scope.names.lookup x = some .local) (hd : (x == ("__debug__" : Str)) = false) (hS : SrcAt h₀ ax its news)
  (turn : ∀ (i : Nat) v I oI C oC D ys m₂ h tk (E' : Value → Shared → Prop), its[i]? = some v → NsObj oC m₂ → m₂ x = some v → Fr h₀ L h m → News h₀ L h ((I, oI) :: (C, oC) :: (D, lst ys) :: news) → Off3 I C D news → ((@Ne Nat I C) ∧ (@Ne Nat I D) ∧ (@Ne Nat C D)) →
   wpAny (model prog w) A (isTrue ct (compEnvC scope cl C env) (eval ct (compEnvC scope cl C env))) (TestEnd (p v) h₀ L m ((I, oI) :: (C, oC) :: (D, lst ys) :: news) { s with heap := h, toks := tk }) E' { s with heap := h, toks := tk })
  (fin : Fin (its.toList.filter p) news) :
  CompRestT prog w A h₀ L m env ct (.Name x px) x scope cl s (SrcAt h₀ ax its) (fun i v => its[i]? = some v) Fin its.size 0 [] news := by
 have key : ∀ k i ys, i + k = its.size → ys = (its.toList.take i).filter p → CompRestT prog w A h₀ L m env ct (.Name x px) x scope cl s (SrcAt h₀ ax its) (fun i v => its[i]? = some v) Fin k i ys news := by
  intro k
  induction k with
  | zero =>
   rintro i ys hi rfl
   rw [Nat.add_zero] at hi
   rw [hi, List.take_of_length_le (by rw [Array.length_toList]; exact Nat.le_refl _)]
   exact CompRestT.zero fin
  | succ k ih =>
   rintro i ys hi rfl
   refine CompRestT.succ ?_
   intro v I oI C oC D m₂ h tk E' hv hC hm F N off ne
   have ht : (its.toList.take (i + 1)).filter p = (its.toList.take i).filter p ++ (if p v = true then [v] else []) := by
    rw [List.take_add_one, List.filter_append, Array.getElem?_toList, hv]
    by_cases hp : p v = true <;> simp [hp]
   refine wpAny_mono (turn i v I oI C oC D _ m₂ h tk E' hv hC hm F N off ne) (fun ok s' te => ?_) fun _ _ e => e
   obtain ⟨rfl, h', tk', rfl, F', N'⟩ := te
   by_cases hp : p v = true
   ·rw [if_pos hp]
    refine wpAny_Name (wpAny_loadName_local (by simp [compEnvC, relabel, hkind]) (lookup_relabel_local hx) (hC.ns (N' (C, oC) (by simp)).1) hm ?_) hd
    refine CompEnd.intro F' N' news (fun _ h => h) off hS ?_
    exact ih (i + 1) _ (by lia) (by rw [ht, if_pos hp])
   ·rw [if_neg hp]
    refine CompEnd.intro F' N' news (fun _ h => h) off hS ?_
    exact ih (i + 1) _ (by lia) (by rw [ht, if_neg hp, List.append_nil])
 exact key its.size 0 [] (Nat.zero_add _) (by simp)
end
end
section
theorem fr_base {B b0 h : Heap} {L : Addr} {m : Str → Option Value} (F : Fr b0 L h m) (K : Keeps B b0) (z : B.objs.size ≤ b0.objs.size) : Fr B L h m := ⟨F.ns, fun b o e => F.keep b o (K b o e), Nat.le_trans z F.above⟩
noncomputable def Lent (B b0 : Heap) (hid : List (Addr × Obj)) : Prop := ∀ p ∈ hid, b0.get? p.1 = some p.2 ∧ B.get? p.1 = none
theorem news_base {B b0 h : Heap} {L : Addr} {m : Str → Option Value} {hid : List (Addr × Obj)} (H : Lent B b0 hid) (F : Fr b0 L h m) (hL : L = b0.objs.size) : News B L h hid :=
 fun p hp => ⟨F.keep _ _ (H p hp).1, Nat.ne_of_lt (hL ▸ Heap.lt_size (H p hp).1), (H p hp).2⟩
theorem lend {B h : Heap} {L : Addr} {m : Str → Option Value} {news : List (Addr × Obj)} (F : Fr B L h m) (N : News B L h news) : ∃ oL, PyProof.Rows.LCg.NsObj oL m ∧ Lent B h ((L, oL) :: news) := by
 obtain ⟨o, e, n⟩ := PyProof.Rows.LCg.ns_obj F.ns
 refine ⟨o, n, fun p hp => ?_⟩
 rcases List.mem_cons.mp hp with rfl | hp
 ·exact ⟨e, Heap.get?_none_of_le F.above⟩
 ·exact ⟨(N p hp).1, (N p hp).2.2⟩
theorem lent_back {B h : Heap} {L : Addr} {oL : Obj} {m : Str → Option Value} {news : List (Addr × Obj)} (nL : PyProof.Rows.LCg.NsObj oL m) (hz : B.objs.size ≤ L) (K : Keeps B h) (eL : h.get? L = some oL) (ne : ∀ p ∈ news, p.1 ≠ L) (H : Lent B h news) : Fr B L h m ∧ News B L h news :=
 ⟨⟨nL.ns eL, K, hz⟩, fun p hp => ⟨(H p hp).1, ne p hp, (H p hp).2⟩⟩
end
section
section
open StrLaws
theorem rfind_at {u p : Str} (hp : 47 ∉ p.cps.toList) : Txt.rfind (u ++ Str.ofString "/" ++ p) (Str.ofString "/") = (u.cps.toList.length : Int) := by
 have hl : (u ++ Str.ofString "/" ++ p).cps.toList = u.cps.toList ++ 47 :: p.cps.toList := by
  rw [app_listZ, app_listZ, slash_eq]; simp
 have at_iff : ∀ i, At (u ++ Str.ofString "/" ++ p) ⟨#[47]⟩ (u ++ Str.ofString "/" ++ p).length i ↔ (u.cps.toList ++ 47 :: p.cps.toList)[i]? = some 47 := fun i => by
  have := subAt_one (u ++ Str.ofString "/" ++ p) 47 i
  rw [hl] at this; exact this
 have h0 : (u.cps.toList ++ 47 :: p.cps.toList)[u.cps.toList.length]? = some 47 := by simp
 rw [slash_eq] at *
 unfold Txt.rfind
 rcases last_spec (u ++ ⟨#[47]⟩ ++ p) ⟨#[47]⟩ with ⟨_, no⟩ | ⟨i, e, hi, no⟩
 ·exact absurd ((at_iff _).mpr h0) (no _)
 ·rw [e]
  have h1 := (at_iff i).mp hi
  have hi2 : ¬ i < u.cps.toList.length := fun q => no _ q ((at_iff _).mpr h0)
  have hi3 : ¬ u.cps.toList.length < i := fun q => by
   rw [List.getElem?_append_right (by lia)] at h1
   obtain ⟨k, hk⟩ : ∃ k, i - u.cps.toList.length = k + 1 := ⟨i - u.cps.toList.length - 1, by lia⟩
   rw [hk, List.getElem?_cons_succ] at h1
   exact hp (List.mem_of_getElem? h1)
  show (i : Int) = _
  lia
theorem len_listZ (x : Str) : x.length = x.cps.toList.length := by show x.cps.size = _; simp
theorem base_at {u p : Str} (hp : 47 ∉ p.cps.toList) : baseP (u ++ Str.ofString "/" ++ p) = p := by
 unfold baseP
 rw [rfind_at hp]
 have hl : (u ++ Str.ofString "/" ++ p).cps.toList = u.cps.toList ++ 47 :: p.cps.toList := by
  rw [app_listZ, app_listZ, slash_eq]; simp
 have hL : (u ++ Str.ofString "/" ++ p).length = u.cps.toList.length + 1 + p.cps.toList.length := by rw [len_listZ, hl]; simp; lia
 rw [slice_from_eq (by lia) (by rw [hL]; lia) rfl, hl]
 apply str_ext
 rw [show ((u.cps.toList.length : Int) + 1).toNat = u.cps.toList.length + 1 by lia, hL]
 rw [show ((((u.cps.toList.length + 1 + p.cps.toList.length : Nat)) : Int) - ((u.cps.toList.length : Int) + 1)).toNat = p.cps.toList.length by lia]
 have : (u.cps.toList ++ 47 :: p.cps.toList).drop (u.cps.toList.length + 1) = p.cps.toList := by
  rw [List.drop_append]; simp
 rw [this]
 show List.take _ _ = _
 rw [List.take_length]
theorem head_at {u p : Str} (hp : 47 ∉ p.cps.toList) : headP (u ++ Str.ofString "/" ++ p) = u ++ Str.ofString "/" := by
 unfold headP
 rw [rfind_at hp]
 have hl : (u ++ Str.ofString "/" ++ p).cps.toList = u.cps.toList ++ 47 :: p.cps.toList := by
  rw [app_listZ, app_listZ, slash_eq]; simp
 rw [beq_iff_eq.mp (slice_closes_to (x := u ++ Str.ofString "/" ++ p) (j := (u.cps.toList.length : Int) + 1) ⟨by lia, by rw [hl]; simp; lia⟩), hl]
 apply str_ext
 rw [app_listZ, slash_eq]
 rw [show ((u.cps.toList.length : Int) + 1 - 0).toNat = u.cps.toList.length + 1 by lia]
 show (List.take _ (List.drop 0 _)) = _
 rw [List.drop_zero, List.take_append, List.take_of_length_le (by lia)]
 simp
noncomputable def noTail (l : List Nat) : List Nat := (l.reverse.dropWhile fun c => c == 47).reverse
theorem strip_eqZ (x : Str) : (Txt.rstripChars x (Str.ofString "/")).cps.toList = noTail x.cps.toList := by
 unfold Txt.rstripChars
 rw [PyProof.Rows.stripBy_eq]
 have e : ((Str.ofString "/").cps.contains : Nat → Bool) = fun c => c == 47 := by
  funext c; rw [slash_eq]; by_cases h : c = 47 <;> simp [h]
 rw [e]
 show (x.cps.extract (stripLo _ false x) (stripHi _ true x _)).toList = _
 simp only [stripLo, stripHi, if_true, Bool.false_eq_true, if_false, List.drop_zero]
 unfold noTail
 rw [len_listZ, Array.toList_extract]
 generalize x.cps.toList = l
 have := List.takeWhile_append_dropWhile (p := fun c : Nat => c == 47) (l := l.reverse)
 generalize List.takeWhile (fun c : Nat => c == 47) l.reverse = a at *
 generalize List.dropWhile (fun c : Nat => c == 47) l.reverse = b at *
 have h2 := congrArg List.reverse this
 rw [List.reverse_append, List.reverse_reverse] at h2
 subst h2
 rw [List.extract_eq_take_drop, List.drop_zero, Nat.sub_zero]
 have e3 : (b.reverse ++ a.reverse).length - a.length = b.reverse.length := by simp
 rw [e3, List.take_append_of_le_length (Nat.le_refl _), List.take_length]
end
end
section
noncomputable def catP : List Str → Str
 | [] => Str.ofString ""
 | p :: r => Str.ofString "/" ++ p ++ catP r
theorem empty_list : (Str.ofString "").cps.toList = [] := by decide +kernel
theorem slash_list : (Str.ofString "/").cps.toList = [47] := by decide +kernel
theorem cat_list : ∀ ps : List Str, (catP ps).cps.toList = ps.flatMap fun p => 47 :: p.cps.toList
 | [] => by simp [catP, empty_list]
 | p :: r => by
  show (Str.ofString "/" ++ p ++ catP r).cps.toList = _
  rw [app_listZ, app_listZ, slash_list, cat_list r]; simp
theorem cat_snoc (qs : List Str) (p : Str) : catP (qs ++ [p]) = catP qs ++ Str.ofString "/" ++ p := by
 apply str_ext
 rw [app_listZ, app_listZ, slash_list, cat_list, cat_list, List.flatMap_append]; simp
noncomputable def Free (ps : List Str) : Prop := ∀ p ∈ ps, 47 ∉ p.cps.toList
theorem noTail_slash (l : List Nat) : noTail (l ++ [47]) = noTail l := by
 unfold noTail; rw [List.reverse_append]; simp
theorem noTail_stay (l : List Nat) (c : Nat) (h : c ≠ 47) : noTail (l ++ [c]) = l ++ [c] := by
 unfold noTail; rw [List.reverse_append]; simp [h]
theorem isNm_empty : isNm (Str.ofString "") = false := by decide +kernel
theorem tails : ∀ (n : Nat) (qs : List Str), qs.length ≤ n → qs ≠ [] → Free qs → (∃ h t, qs = h :: t ∧ isNm h = true) →
  ∃ qs', qs'.length ≤ qs.length ∧ qs' ≠ [] ∧ (∃ h t, qs' = h :: t ∧ isNm h = true) ∧ (∀ p ∈ qs', p ∈ qs) ∧ qs'.filter isNm = qs.filter isNm ∧ noTail (catP qs).cps.toList = (catP qs').cps.toList
 | 0, qs, hl, hn, _, _ => absurd (List.length_eq_zero_iff.mp (by lia)) hn
 | n + 1, qs, hl, hn, hf, hh => by
  obtain ⟨r, q, rfl⟩ : ∃ r q, qs = r ++ [q] := ⟨qs.dropLast, qs.getLast hn, (List.dropLast_concat_getLast hn).symm⟩
  by_cases hq : q = Str.ofString ""
  ·subst hq
   have hr : r ≠ [] := by
    rintro rfl
    obtain ⟨h, t, e, hi⟩ := hh
    simp at e
    rw [← e.1, isNm_empty] at hi; cases hi
   have hh2 : ∃ h t, r = h :: t ∧ isNm h = true := by
    cases r with
    | nil => exact absurd rfl hr
    | cons a r =>
     obtain ⟨h, t, e, hi⟩ := hh
     simp at e
     exact ⟨a, r, rfl, by rw [e.1]; exact hi⟩
   obtain ⟨qs', a, b, c, d, e, f⟩ := tails n r (by simp at hl; lia) hr (fun p hp => hf p (List.mem_append_left _ hp)) hh2
   refine ⟨qs', by simp; lia, b, c, fun p hp => List.mem_append_left _ (d p hp), ?_, ?_⟩
   ·rw [List.filter_append, e]; simp [isNm_empty]
   ·rw [cat_snoc, app_listZ, app_listZ, slash_list, empty_list, List.append_nil, noTail_slash, f]
  ·refine ⟨r ++ [q], Nat.le_refl _, hn, hh, fun _ h => h, rfl, ?_⟩
   have hq2 : q.cps.toList ≠ [] := fun e => hq (str_ext (by rw [e, empty_list]))
   have e : q.cps.toList = q.cps.toList.dropLast ++ [q.cps.toList.getLast hq2] := (List.dropLast_concat_getLast hq2).symm
   rw [cat_snoc, app_listZ, e, ← List.append_assoc]
   exact noTail_stay _ _ fun x => hf q (by simp) (by rw [e, x]; simp)
theorem up_empty {p : Str} : (p = Str.ofString "" ∨ p = Str.ofString ".") ↔ isNm p = false := by
 unfold isNm
 by_cases h1 : p = Str.ofString "" <;> by_cases h2 : p = Str.ofString "." <;> simp [h1, h2]
theorem dir_first {p : Str} (hp : 47 ∉ p.cps.toList) : dirP (Str.ofString "" ++ Str.ofString "/" ++ p) = Str.ofString "/" := by
 have e := head_at (u := Str.ofString "") hp
 unfold dirP
 rw [e]
 decide +kernel
theorem dir_slash : dirP (Str.ofString "/") = Str.ofString "/" := by decide +kernel
theorem dir_at {qs qs' : List Str} {p : Str} (hp : 47 ∉ p.cps.toList) (hf : noTail (catP qs).cps.toList = (catP qs').cps.toList) (hne : ∃ c ∈ (catP qs).cps.toList, c ≠ 47) : dirP (catP qs ++ Str.ofString "/" ++ p) = catP qs' := by
 have e := head_at (u := catP qs) hp
 unfold dirP
 rw [e, if_pos, if_pos]
 ·apply str_ext
  rw [strip_eqZ, app_listZ, slash_list, noTail_slash, hf]
 ·rw [bne_iff_ne]
  intro q
  obtain ⟨c, hc, hn⟩ := hne
  have : c ∈ (catP qs ++ Str.ofString "/").cps.toList := by rw [app_listZ]; exact List.mem_append_left _ hc
  rw [q, slash_eq, mul_one_list] at this
  exact hn (List.mem_replicate.mp this).2
 ·rw [Str.length_append, slash_length]; lia
theorem noTail_le (l : List Nat) : (noTail l).length ≤ l.length := by
 unfold noTail
 rw [List.length_reverse]
 have := (List.dropWhile_sublist (fun c : Nat => c == 47) (l := l.reverse)).length_le
 simpa using this
theorem ups_cat : ∀ (n : Nat) (ps : List Str), ps.length ≤ n → Free ps → (∃ h t, ps = h :: t ∧ isNm h = true) → (catP ps).length ≤ 1000 → ∃ k, k ≤ ps.length ∧ Ups (catP ps) (ps.filter isNm).reverse k
 | 0, ps, hl, _, ⟨h, t, e, _⟩, _ => by rw [e] at hl; simp at hl
 | n + 1, ps, hl, hf, hh, hz => by
  have hn : ps ≠ [] := by obtain ⟨h, t, e, _⟩ := hh; rw [e]; simp
  obtain ⟨qs, p, rfl⟩ : ∃ r q, ps = r ++ [q] := ⟨ps.dropLast, ps.getLast hn, (List.dropLast_concat_getLast hn).symm⟩
  have hp : 47 ∉ p.cps.toList := hf p (by simp)
  have hb := base_at (u := catP qs) hp
  rw [cat_snoc] at hz ⊢
  have key : ∀ (xs : List Str) k, Ups (dirP (catP qs ++ Str.ofString "/" ++ p)) xs k → dirP (catP qs ++ Str.ofString "/" ++ p) ≠ catP qs ++ Str.ofString "/" ++ p → xs = (qs.filter isNm).reverse → Ups (catP qs ++ Str.ofString "/" ++ p) ((qs ++ [p]).filter isNm).reverse (k + 1) := by
   rintro xs k U ne rfl
   have := Ups.step _ _ _ hz ne U
   rw [hb] at this
   rw [List.filter_append, List.reverse_append]
   cases hi : isNm p with
   | true =>
    rw [if_neg (by rw [up_empty, hi]; simp)] at this
    simpa [hi] using this
   | false =>
    rw [if_pos (up_empty.mpr hi)] at this
    simpa [hi] using this
  by_cases hq : qs = []
  ·subst hq
   have ed := dir_first hp
   refine ⟨1, by simp, key [] 0 ?_ ?_ rfl⟩
   ·show Ups (dirP (Str.ofString "" ++ Str.ofString "/" ++ p)) [] 0
    rw [ed]; exact .stop _ (by decide +kernel) dir_slash
   ·show dirP (Str.ofString "" ++ Str.ofString "/" ++ p) ≠ _
    rw [ed]
    intro q
    have q2 := congrArg (fun s : Str => s.cps.toList.length) q
    simp only [catP, app_listZ, empty_list, slash_list] at q2
    obtain ⟨h, t, e, hi⟩ := hh
    simp at e q2
    rw [← e.1] at hi
    have : p = Str.ofString "" := str_ext (by rw [empty_list]; exact List.length_eq_zero_iff.mp (by simp; lia))
    rw [this, isNm_empty] at hi; cases hi
  ·have hh2 : ∃ h t, qs = h :: t ∧ isNm h = true := by
    cases qs with
    | nil => exact absurd rfl hq
    | cons a r =>
     obtain ⟨h, t, e, hi⟩ := hh
     simp at e
     exact ⟨a, r, rfl, by rw [e.1]; exact hi⟩
   obtain ⟨qs', a, b, c, d, e, f⟩ := tails qs.length qs (Nat.le_refl _) hq (fun p hp => hf p (List.mem_append_left _ hp)) hh2
   have hne : ∃ c ∈ (catP qs).cps.toList, c ≠ 47 := by
    obtain ⟨h, t, e2, hi⟩ := hh2
    have h0 : h.cps.toList ≠ [] := fun z => by
     have : h = Str.ofString "" := str_ext (by rw [z, empty_list])
     rw [this, isNm_empty] at hi; cases hi
    obtain ⟨c, cs, ec⟩ := List.exists_cons_of_ne_nil h0
    refine ⟨c, ?_, fun q => hf h (by rw [e2]; simp) (by rw [ec, q]; exact .head _)⟩
    rw [cat_list, e2]; simp [ec]
   have ed := dir_at (p := p) hp f hne
   have hlen : (catP qs').cps.toList.length ≤ (catP qs).cps.toList.length := by rw [← f]; exact noTail_le _
   have hz' : (catP qs').length ≤ 1000 := by
    rw [len_listZ] at hz ⊢
    rw [app_listZ, app_listZ] at hz
    simp only [List.length_append] at hz; lia
   obtain ⟨k, hk, U⟩ := ups_cat n qs' (by simp at hl; lia) (fun p hp => hf p (List.mem_append_left _ (d p hp))) c hz'
   refine ⟨k + 1, by simp; lia, key _ k (by rw [ed]; exact U) ?_ (by rw [e])⟩
   rw [ed]
   intro q
   have q2 := congrArg (fun s : Str => s.cps.toList.length) q
   simp only [app_listZ, slash_list, List.length_append, List.length_singleton] at q2
   lia
end
section
noncomputable def Bk (p : Prop) : Prop := p
theorem Bk.go {p : Prop} (h : p) : Bk p := h
theorem enterM (binds : List (Str × Value)) {w : World} {A : Around} {R : Result → Shared → Prop} {s : Shared} {name qual : Str} {params : Arguments} {body : List Stmt} {scope : Scope}
  {dV kV doc pm cdv ct oc : Value} {an od : Option Addr} {osl : Array (Option Value)} {f : Addr} {args : Args} {n : Nat} {B : Heap} {L : Addr} {m : Str → Option Value} {news : List (Addr × Obj)}
  (C : Cx w B) (F : Fr B L s.heap m) (N : News B L s.heap news) (ho : (KW w.params).lookup f = some ⟨oc, od, .func (fnOf name qual params body scope dV kV doc pm an cdv ct), osl⟩) (hcd : codeIn (KW w.params) cdv qual = true) (hroom : Room A (n + 1))
  (hbind : BindsTo s (fnOf name qual params body scope dV kV doc pm an cdv ct) args binds) (hloc : ∀ y ∈ binds, scope.names.lookup y.1 = some .local)
  (h : ∀ oL h₁, PyProof.Rows.LCg.NsObj oL m → Fr B s.heap.objs.size h₁ (fun x => binds.reverse.lookup x) → News B s.heap.objs.size h₁ ((L, oL) :: news) → (∀ p ∈ (L, oL) :: news, p.1 < s.heap.objs.size) → Room (A.deeper (envOf qual scope s.heap.objs.size f cdv)) n →
   wpAny (model pw w) (A.deeper (envOf qual scope s.heap.objs.size f cdv)) (execs body (envOf qual scope s.heap.objs.size f cdv))
    (fun fl s' => Bk (R (.ok (.ret (match fl with | .ret v => v | _ => .none))) s')) (fun _ _ => False)
    { s with heap := h₁, toks := s.toks + binds.length })
  (hco : scope.isCoroutine = false) (hgen : scope.isGenerator = false) (hk : scope.kind = .function)
  (hcell : ∀ x ∈ scope.names, x.2 ≠ .cell) : codeAny (model pw w) A (.call (.ref f) args) R s := by
 refine enter binds (C.keeps F.keep) ho hcd hroom hbind hloc (fun h₁ F₁ _ R₁ => ?_) hco hgen hk hcell
 obtain ⟨oL, nL, H⟩ := lend F N
 have z : B.objs.size ≤ s.heap.objs.size := Nat.le_of_lt (Nat.lt_of_le_of_lt F.above F.ns.lt)
 exact h oL h₁ nL (fr_base F₁ F.keep z) (news_base H F₁ rfl) (fun p hp => Heap.lt_size (H p hp).1) R₁
theorem back {B h' : Heap} {L L' : Addr} {oL : Obj} {m m' : Str → Option Value} {news' : List (Addr × Obj)} (hz : B.objs.size ≤ L) (nL : PyProof.Rows.LCg.NsObj oL m) (F : Fr B L' h' m') (N : News B L' h' ((L, oL) :: news')) (ne : ∀ p ∈ news', p.1 ≠ L) :
  Fr B L h' m ∧ News B L h' news' := ⟨⟨nL.ns (N _ (.head _)).1, F.keep, hz⟩, fun p hp => ⟨(N p (.tail _ hp)).1, ne p hp, (N p (.tail _ hp)).2.2⟩⟩
theorem pushed2 {B : Heap} {C : Addr} {h₁ : Heap} {m : Str → Option Value} (F : Fr ((B.push emptyDict).push (instObj C B.objs.size)) ((B.push emptyDict).push (instObj C B.objs.size)).objs.size h₁ m) :
  Fr B (B.objs.size + 1 + 1) h₁ m ∧ News B (B.objs.size + 1 + 1) h₁ [(B.objs.size + 1, instObj C B.objs.size), (B.objs.size, dictOf [] 0)] := by
 have e : ((B.push emptyDict).push (instObj C B.objs.size)).objs.size = B.objs.size + 1 + 1 := by rw [Heap.size_push, Heap.size_push]
 have k1 : (B.push emptyDict).get? B.objs.size = some emptyDict := Heap.get?_push_size _ rfl
 have k2 : ((B.push emptyDict).push (instObj C B.objs.size)).get? (B.objs.size + 1) = some (instObj C B.objs.size) := by
  have := Heap.get?_push_size (B.push emptyDict) (o := instObj C B.objs.size) rfl
  rwa [Heap.size_push] at this
 have none : ∀ k, B.get? (B.objs.size + k) = none := fun k => fresh_above B k
 rw [e] at F
 refine ⟨fr_base F (fun b o x => Heap.get?_push_of_some _ (Heap.get?_push_of_some _ x)) (by rw [e]; lia), fun p hp => ?_⟩
 rcases List.mem_cons.mp hp with rfl | hp
 ·exact ⟨F.keep _ _ k2, by simp, none 1⟩
 ·rcases List.mem_cons.mp hp with rfl | hp
  ·exact ⟨F.keep _ _ (Heap.get?_push_of_some _ k1), (by show B.objs.size ≠ B.objs.size + 1 + 1; lia), none 0⟩
  ·cases hp
theorem Room.under {A : Around} {n : Nat} {c : Code} (R : Room A (n + 1)) (hw : c.weight ≤ 1) (hu : c.cUnits ≤ 8) : Room (A.under c) n := ⟨by have := R.depth; show A.depth + c.weight + n ≤ 900; lia, by have := R.units; show A.units + c.cUnits + 8 * n ≤ 9000; lia, R.handled⟩
theorem make_weight (a : Addr) (args : List Value) (kw : List (Str × Value)) : (Code.builtin "type.__call__" ⟨.ref a :: args, kw⟩).weight = 1 := by kernel_rfl
theorem make_units (a : Addr) (args : List Value) (kw : List (Str × Value)) : (Code.builtin "type.__call__" ⟨.ref a :: args, kw⟩).cUnits ≤ 8 := by
 have e : (Code.builtin "type.__call__" ⟨.ref a :: args, kw⟩).cUnits = 1 := by first | rfl | kernel_rfl
 lia
end
section
abbrev PlE := Str × Addr × List Value × Nat
noncomputable def kvsP (P : List PlE) : List (Str × Value) := P.map fun e => (e.1, .ref e.2.1)
noncomputable def ledP (P : List PlE) : List (Addr × Obj) := P.map fun e => (e.2.1, listOf e.2.2.1.toArray e.2.2.2)
noncomputable def posn (Bs : List Str) (k : Nat) (c : Str) : List Int := ((List.range k).filter fun i => decide (Bs[i]? = some c)).map Int.ofNat
theorem posn_succ (Bs : List Str) (k : Nat) (c : Str) : posn Bs (k + 1) c = posn Bs k c ++ (if Bs[k]? = some c then [(k : Int)] else []) := by
 unfold posn
 rw [List.range_succ, List.filter_append, List.map_append]
 congr 1
 by_cases h : Bs[k]? = some c <;> simp [h]
structure PlInv (Bs : List Str) (k : Nat) (P : List PlE) : Prop where
 keys : (P.map (·.1)).Nodup
 addrs : (P.map (·.2.1)).Nodup
 vals : ∀ e ∈ P, IntsAre e.2.2.1 (posn Bs k e.1)
 small : ∀ e ∈ P, e.2.2.1.length ≤ k
 rest : ∀ c, (∀ e ∈ P, e.1 ≠ c) → posn Bs k c = []
 few : P.length ≤ k
theorem plInv_nil (Bs : List Str) : PlInv Bs 0 [] := ⟨.nil, .nil, fun _ h => (nomatch h), fun _ h => (nomatch h), fun _ _ => rfl, Nat.le_refl _⟩
theorem ints_snocZ {vs : List Value} {ns : List Int} (h : IntsAre vs ns) (x : Int) (t : Tok) : IntsAre (vs ++ [.int x t]) (ns ++ [x]) := by
 induction h with
 | nil => exact .cons _ _ .nil
 | cons n t _ ih => exact .cons n t ih
theorem plInv_new {Bs : List Str} {k : Nat} {P : List PlE} (I : PlInv Bs k P) {c : Str} (hc : Bs[k]? = some c) (hn : ∀ e ∈ P, e.1 ≠ c) {l : Addr} (hl : ∀ e ∈ P, e.2.1 ≠ l) (t : Tok) (n : Nat) :
  PlInv Bs (k + 1) (P ++ [(c, l, [.int k t], n)]) := by
 refine ⟨?_, ?_, ?_, ?_, ?_, ?_⟩
 ·rw [List.map_append, List.nodup_append]
  refine ⟨I.keys, by simp, ?_⟩
  intro a ha b hb
  obtain ⟨e, he, rfl⟩ := List.mem_map.mp ha
  simp at hb; subst hb
  exact hn e he
 ·rw [List.map_append, List.nodup_append]
  refine ⟨I.addrs, by simp, ?_⟩
  intro a ha b hb
  obtain ⟨e, he, rfl⟩ := List.mem_map.mp ha
  simp at hb; subst hb
  exact hl e he
 ·intro e he
  rcases List.mem_append.mp he with he | he
  ·rw [posn_succ, if_neg (by rw [hc]; intro q; exact hn e he (Option.some.inj q).symm), List.append_nil]
   exact I.vals e he
  ·rw [List.mem_singleton.mp he]
   rw [posn_succ, if_pos hc, I.rest c hn]
   exact .cons _ _ .nil
 ·intro e he
  rcases List.mem_append.mp he with he | he
  ·have := I.small e he; lia
  ·rw [List.mem_singleton.mp he]; simp
 ·intro c' h
  rw [posn_succ, if_neg (by rw [hc]; intro q; exact h (c, l, [.int k t], n) (by simp) (Option.some.inj q)), List.append_nil]
  exact I.rest c' fun e he => h e (List.mem_append_left _ he)
 ·have := I.few; simp; lia
noncomputable def plUp (c : Str) (l : Addr) (its : List Value) (n : Nat) (e : PlE) : PlE := if e.1 = c then (c, l, its, n) else e
theorem plUp_key {c : Str} {l : Addr} {its : List Value} {n : Nat} (P : List PlE) : (P.map (plUp c l its n)).map (·.1) = P.map (·.1) := by
 rw [List.map_map]
 refine List.map_congr_left fun e _ => ?_
 show (plUp c l its n e).1 = e.1
 unfold plUp; split
 ·rename_i h; exact h.symm
 ·rfl
theorem pl_same {P : List PlE} (h : (P.map (·.1)).Nodup) {e e' : PlE} (he : e ∈ P) (he' : e' ∈ P) (q : e.1 = e'.1) : e = e' := by
 induction P with
 | nil => cases he
 | cons a P ih =>
  rw [List.map_cons, List.nodup_cons] at h
  rcases List.mem_cons.mp he with rfl | he1 <;> rcases List.mem_cons.mp he' with rfl | he2
  ·rfl
  ·exact absurd (List.mem_map.mpr ⟨e', he2, q.symm⟩) h.1
  ·exact absurd (List.mem_map.mpr ⟨e, he1, q⟩) h.1
  ·exact ih h.2 he1 he2
theorem pl_sameA {P : List PlE} (h : (P.map (·.2.1)).Nodup) {e e' : PlE} (he : e ∈ P) (he' : e' ∈ P) (q : e.2.1 = e'.2.1) : e = e' := by
 induction P with
 | nil => cases he
 | cons a P ih =>
  rw [List.map_cons, List.nodup_cons] at h
  rcases List.mem_cons.mp he with rfl | he1 <;> rcases List.mem_cons.mp he' with rfl | he2
  ·rfl
  ·exact absurd (List.mem_map.mpr ⟨e', he2, q.symm⟩) h.1
  ·exact absurd (List.mem_map.mpr ⟨e, he1, q⟩) h.1
  ·exact ih h.2 he1 he2
theorem plUp_addr {c : Str} {l : Addr} {its its' : List Value} {n n' : Nat} {P : List PlE} (h : (P.map (·.1)).Nodup) (he : (c, l, its, n) ∈ P) : (P.map (plUp c l its' n')).map (·.2.1) = P.map (·.2.1) := by
 rw [List.map_map]
 refine List.map_congr_left fun e hm => ?_
 show (plUp c l its' n' e).2.1 = e.2.1
 unfold plUp; split
 ·rename_i q
  have := pl_same h hm he q
  rw [this]
 ·rfl
theorem plUp_kvs {c : Str} {l : Addr} {its its' : List Value} {n n' : Nat} {P : List PlE} (h : (P.map (·.1)).Nodup) (he : (c, l, its, n) ∈ P) : kvsP (P.map (plUp c l its' n')) = kvsP P := by
 unfold kvsP
 rw [List.map_map]
 refine List.map_congr_left fun e hm => ?_
 show ((plUp c l its' n' e).1, Value.ref (plUp c l its' n' e).2.1) = (e.1, Value.ref e.2.1)
 unfold plUp; split
 ·rename_i q
  have := pl_same h hm he q
  rw [this]
 ·rfl
theorem plInv_up {Bs : List Str} {k : Nat} {P : List PlE} (I : PlInv Bs k P) {c : Str} (hc : Bs[k]? = some c) {l : Addr} {its : List Value} {n : Nat} (he : (c, l, its, n) ∈ P) (t : Tok) (n' : Nat) :
  PlInv Bs (k + 1) (P.map (plUp c l (its ++ [.int k t]) n')) := by
 refine ⟨by rw [plUp_key]; exact I.keys, by rw [plUp_addr I.keys he]; exact I.addrs, ?_, ?_, ?_, ?_⟩
 ·intro e' hm'
  obtain ⟨e, hm, rfl⟩ := List.mem_map.mp hm'
  unfold plUp
  split
  ·show IntsAre (its ++ [.int k t]) (posn Bs (k + 1) c)
   rw [posn_succ, if_pos hc]
   exact ints_snocZ (I.vals _ he) _ _
  ·rename_i q
   rw [posn_succ, if_neg (by rw [hc]; intro z; exact q (Option.some.inj z).symm), List.append_nil]
   exact I.vals e hm
 ·intro e' hm'
  obtain ⟨e, hm, rfl⟩ := List.mem_map.mp hm'
  unfold plUp
  split
  ·show (its ++ [Value.int k t]).length ≤ k + 1
   have : its.length ≤ k := I.small _ he
   simp; lia
  ·have := I.small e hm; lia
 ·intro c' h
  have hcc : c ≠ c' := fun q => h (plUp c l (its ++ [.int k t]) n' (c, l, its, n)) (List.mem_map_of_mem he) (by unfold plUp; rw [if_pos rfl]; exact q)
  rw [posn_succ, if_neg (by rw [hc]; intro q; exact hcc (Option.some.inj q)), List.append_nil]
  refine I.rest c' fun e hm q => ?_
  refine h (plUp c l (its ++ [.int k t]) n' e) (List.mem_map_of_mem hm) ?_
  unfold plUp
  rw [if_neg (by rw [q]; exact Ne.symm hcc)]; exact q
 ·rw [List.length_map]; have := I.few; lia
theorem kvs_find {P : List PlE} {c : Str} {v : Value} (h : valueAt (kvsP P) c = some v) : ∃ l its n, (c, l, its, n) ∈ P ∧ v = .ref l := by
 unfold valueAt at h
 cases e : (kvsP P).find? (fun kv => kv.1 = c) with
 | none => rw [e] at h; cases h
 | some kv =>
  rw [e] at h
  have h1 := List.find?_some e
  have h2 := List.mem_of_find?_eq_some e
  obtain ⟨⟨c', l, its, n⟩, hm, rfl⟩ := List.mem_map.mp h2
  simp only [decide_eq_true_eq] at h1
  subst h1
  exact ⟨l, its, n, hm, by cases h; rfl⟩
theorem kvs_none {P : List PlE} {c : Str} (h : valueAt (kvsP P) c = none) : ∀ e ∈ P, e.1 ≠ c := by
 intro e he q
 unfold valueAt at h
 cases f : (kvsP P).find? (fun kv => kv.1 = c) with
 | none =>
  have := List.find?_eq_none.mp f (e.1, .ref e.2.1) (List.mem_map.mpr ⟨e, he, rfl⟩)
  simp [q] at this
 | some kv => rw [f] at h; cases h
section
variable {prog : Program} {w : World} {K : Type} [DecidableEq K] {knd : KeyKind prog w K} {A : Around} {E : Value → Shared → Prop} {s : Shared} {h₀ : Heap} {L d l : Addr} {m : Str → Option Value} {o : Obj} {k : K} {key dflt : Value} {kvs : List (K × Value)} {pre post news rest : List (Addr × Obj)}
theorem sd_ {Q : Value → Shared → Prop} (F : Fr h₀ L s.heap m) (N : News h₀ L s.heap news) (hm : (d, o) ∈ news) (rest : List (Addr × Obj)) (hr : ∀ p ∈ rest, p ∈ news ∧ p.1 ≠ d) (hd : o.IsDictOf knd kvs) (hkey : knd.is k key = true) (lo : (d == sysModules) = false) (hsz : kvs.length ≤ 10000)
  (hargs : argsOk "dict.setdefault" ⟨[.ref d, key, dflt], []⟩)
  (h1 : ∀ v, valueAt kvs k = some v → Q v { s with toks := s.toks + 1 })
  (h2 : valueAt kvs k = none → ∀ h' o', Fr h₀ L h' m → News h₀ L h' ((d, o') :: rest) → o'.IsDictOf knd (stored kvs k dflt) → Q dflt { s with heap := h', toks := s.toks + 1 }) :
  wpAny (model prog w) A (call (.builtin "dict.setdefault") [.ref d, key, dflt]) Q E s := by
 have hmm := N _ hm
 have hD : s.heap.DictOf knd d kvs := Heap.dictOf_iff.mpr ⟨o, hmm.1, hd⟩
 refine call_meetsIn PySem.F.slot_dict_setdefault hD.typeIs PySem.F.entry_dict_setdefault hargs (kt_meets_setdefault knd d hkey lo dflt)
  ⟨kvs, hD, by rw [sizeLine_eq]; lia, fun v hv => h1 v hv, fun hn h' hm' hs => ?_⟩
 obtain ⟨o', ho', hd'⟩ := Heap.dictOf_iff.mp hm'
 refine h2 hn h' o' (F.change hs hmm.2.1 hmm.2.2) (fun p hp => ?_) hd'
 rcases List.mem_cons.mp hp with rfl | hp
 ·exact ⟨ho', hmm.2⟩
 ·have z := N p (hr p hp).1
  exact ⟨hs.extBut _ _ (hr p hp).2 z.1, z.2⟩
theorem append_inZ {its : Array Value} {n : Nat} {x : Value} {Q : Value → Shared → Prop} (F : Fr h₀ L s.heap m) (N : News h₀ L s.heap news) (hm : (l, listOf its n) ∈ news) (rest : List (Addr × Obj)) (hr : ∀ p ∈ rest, p ∈ news ∧ p.1 ≠ l) (hsz : its.size ≤ 10000)
  (h : ∀ h', Fr h₀ L h' m → News h₀ L h' ((l, listOf (its.push x) (n + 1)) :: rest) → Q .none { s with heap := h' }) : wpAny (model prog w) A (call (.builtin "list.append") [.ref l, x]) Q E s := by
 have z := N _ hm
 refine append_at (hsz := by rw [sizeLine_eq]; lia) z.1 fun h' hs ho' => h h' (F.change hs z.2.1 z.2.2) fun p hp => ?_
 rcases List.mem_cons.mp hp with rfl | hp
 ·exact ⟨ho', z.2⟩
 ·have y := N p (hr p hp).1
  exact ⟨hs.extBut _ _ (hr p hp).2 y.1, y.2⟩
end
theorem name_head {h₀ h : Heap} {L l : Addr} {o : Obj} {r : List (Addr × Obj)} (_N : News h₀ L h ((l, o) :: r)) : ∃ l', l' = l := ⟨_, rfl⟩
theorem allLt_mem {d : Nat} : ∀ {l : List (Addr × Obj)}, PySem.W.AllLt d l → ∀ p ∈ l, p.1 < d
 | [], _, _, h => nomatch h
 | _ :: _, x, p, h => by
  rcases List.mem_cons.mp h with rfl | h
  ·exact x.1
  ·exact allLt_mem x.2 p h
theorem ledP_addr {P : List PlE} {p : Addr × Obj} (h : p ∈ ledP P) : p.1 ∈ P.map (·.2.1) := by
 obtain ⟨e, he, rfl⟩ := List.mem_map.mp h
 exact List.mem_map.mpr ⟨e, he, rfl⟩
theorem ledP_of {P : List PlE} {a : Addr} (h : a ∈ P.map (·.2.1)) : ∃ o, (a, o) ∈ ledP P := by
 obtain ⟨e, he, rfl⟩ := List.mem_map.mp h
 exact ⟨_, List.mem_map.mpr ⟨e, he, rfl⟩⟩
theorem ledP_in {P : List PlE} {c : Str} {l : Addr} {its : List Value} {n : Nat} (h : (c, l, its, n) ∈ P) : (l, listOf its.toArray n) ∈ ledP P := List.mem_map.mpr ⟨_, h, rfl⟩
theorem plUp_sub {P : List PlE} {c : Str} {l : Addr} {its : List Value} {n : Nat} {x : Value} (hk : (P.map (·.1)).Nodup) (ha : (P.map (·.2.1)).Nodup) (he : (c, l, its, n) ∈ P) :
  ∀ p ∈ ledP (P.map (plUp c l (its ++ [x]) (n + 1))), p = (l, listOf (its.toArray.push x) (n + 1)) ∨ (p ∈ ledP P ∧ p.1 ≠ l) := by
 intro p hp
 obtain ⟨e', he', rfl⟩ := List.mem_map.mp hp
 obtain ⟨e, hm, rfl⟩ := List.mem_map.mp he'
 unfold plUp
 split
 ·left; rw [List.push_toArray]
 ·rename_i q
  right
  refine ⟨List.mem_map.mpr ⟨e, hm, rfl⟩, fun z => q ?_⟩
  have := pl_sameA ha hm he z
  rw [this]
theorem hap_split {l r : List (Addr × Obj)} {x : Addr} {ox : Obj} (h : ∀ p ∈ l, ∀ q ∈ (x, ox) :: r, p.1 ≠ q.1) : (∀ p ∈ l, p.1 ≠ x) ∧ (∀ p ∈ l, ∀ q ∈ r, p.1 ≠ q.1) := ⟨fun p hp => h p hp _ (.head _), fun p hp q hq => h p hp q (.tail _ hq)⟩
theorem name2 {h₀ h : Heap} {L a b : Addr} {oa ob : Obj} {r : List (Addr × Obj)} (_N : News h₀ L h ((a, oa) :: (b, ob) :: r)) : ∃ a' b', a' = a ∧ b' = b := ⟨_, _, rfl, rfl⟩
end
section
noncomputable def matchObj (dx : Addr) (its : Array Value) : Obj := { cls := .ref 135, dict := some dx, data := .seq its }
theorem match_look (w : World) : (KW w.params).lookup 135 = some (o135 w.params) := by k_is
theorem match_inst (w : World) : instIn (KW w.params) (.ref 135) (.type "type") = some true := by k_is
theorem match_call (w : World) : specialIn (KW w.params) (.ref 135) "__call__" = some (some (.builtin "type.__call__")) := by k_is
theorem match_init (w : World) : findIn (KW w.params) (.ref 135) "__init__" = some (some (.builtin "object.__init__")) := by k_is
theorem match_sub (w : World) : mroIn (KW w.params) 135 (.type "tuple") = some true := by k_is
theorem match_self (w : World) : mroIn (KW w.params) 135 (.ref 135) = some true := by k_is
theorem match_top (w : World) : mroIn (KW w.params) 135 (.type "object") = some true := by k_is
section
variable {w : World} {M : Model} {h : Heap}
theorem match_at (X : (KW w.params).In h) : ∃ oc od cd sl, h.get? 135 = some ⟨oc, od, .cls cd, sl⟩ ∧ cd.mro = [.ref 135, .type "tuple", .type "object"] ∧ cd.bases = [.type "tuple"] ∧ cd.hasDel = false ∧ (sl[4]?).join = some .none := by
 exact ⟨_, _, _, _, X _ _ (match_look w), rfl, rfl, rfl, rfl⟩
theorem match_mro (X : (KW w.params).In h) : Looks M h (mroOf (.ref 135)) [.ref 135, .type "tuple", .type "object"] := by
 obtain ⟨oc, od, cd, sl, ho, e1, -⟩ := match_at X
 rw [← e1]
 exact ((Looks.ld (part := none) ho).andThen .now).andThen .now
theorem match_made (X : (KW w.params).In h) : Looks M h (Bind.madeBy (.ref 135)) none := by
 obtain ⟨oc, od, cd, sl, ho, e1, e2, e3, e4⟩ := match_at X
 intro A Q E s k q
 unfold Bind.madeBy
 refine wpAny_bind (match_mro X A _ E s k ?_)
 rw [List.forIn_cons]
 refine wpAny_bind (wpAny_bind (wpAny_bind (wpAny_bind (wpAny_loadPart (k _ _ ho) (wpAny_pure ?_)))))
 dsimp only
 rw [e4]
 exact wpAny_pure (wpAny_pure (wpAny_pure q))
theorem best_tuple : Builtin.Slots.bestBase [.type "tuple"] = pure (.type "tuple") := by first | rfl | kernel_rfl
theorem match_base (X : (KW w.params).In h) : Looks M h (Bind.staticBase (.ref 135)) (.type "tuple") := by
 obtain ⟨oc, od, cd, sl, ho, e1, e2, e3, e4⟩ := match_at X
 intro A Q E s k q
 unfold Bind.staticBase
 refine wpAny_bind (match_mro X A _ E s k ?_)
 rw [List.forIn_cons]
 refine wpAny_bind (wpAny_bind (wpAny_bind (match_made X A _ E s k ?_)))
 simp only [Option.isSome_none, Bool.false_eq_true, if_false]
 refine wpAny_bind (((Looks.ld (part := none) ho).andThen .now : Looks M h (classData 135) cd) A _ E s k ?_)
 rw [e2, best_tuple]
 refine wpAny_bind (wpAny_pure (wpAny_pure ?_))
 show wpAny _ _ (forIn [Value.type "tuple", Value.type "object"] _ _) _ _ _
 rw [List.forIn_cons]
 refine wpAny_bind (wpAny_bind ?_)
 rw [PySem.F.called_tuple.made]
 refine wpAny_pure ?_
 simp only [Option.isSome_some, if_true]
 exact wpAny_pure (wpAny_pure (wpAny_pure q))
end

theorem tn_row : ∃ sig, Manifest.signature? "tuple.__new__" = some sig ∧ ∀ T : Addr, Bind.checkArgs "tuple.__new__" sig ⟨[.ref 135, .ref T], []⟩ = pure () := by
 cases e : Manifest.signature? "tuple.__new__" with
 | none => exact absurd e (by decide +kernel)
 | some sig => exact ⟨sig, rfl, fun T => by
   have : argsOk "tuple.__new__" ⟨[.ref 135, .ref T], []⟩ := by unfold argsOk; kernel_rfl
   simpa only [argsOk, e] using this⟩
theorem tn_kind : builtinKind "tuple.__new__" = some .builtinFn := by decide +kernel
theorem tn_split : splitId "tuple.__new__" = some ("tuple", "__new__") := by decide +kernel
section
variable {w : World} {A : Around} {E : Value → Shared → Prop} {s : Shared}
theorem tn_check {T : Addr} {Q : Unit → Shared → Prop} (X : (KW w.params).In s.heap) (q : Q () s) : wpAny (model pw w) A (checkBuiltinCall "tuple.__new__" ⟨[.ref 135, .ref T], []⟩) Q E s := by
 have l1 := looks_instIn (M := model pw w) X (match_inst w)
 have l2 := looks_mroIn (M := model pw w) X (match_sub w)
 have l3 := match_base (M := model pw w) X
 have m1 : Looks (model pw w) s.heap (Bind.madeBy (.type "tuple")) (some "tuple.__new__") := Looks.of_pure PySem.F.called_tuple.made
 obtain ⟨oc, od, cd, sl, ho, -⟩ := match_at X
 obtain ⟨sig, tn_row, a1⟩ := tn_row
 obtain ⟨h, g, d, t, os⟩ := s
 simp only [checkBuiltinCall, tn_kind, tn_split, tn_row]
 rw [a1 T]
 repeat (first | simp only [bne_self_eq_false, Bool.false_eq_true, if_false, if_true, Bool.not_true] | lk)
 exact q
theorem tn_plain : plainId "tuple.__new__" = true := by decide +kernel
theorem tn_run {T : Addr} {its : Array Value} {P : Fin → Shared → Prop} (X : (KW w.params).In s.heap) (hT : s.heap.IsTuple T its) (hz : its.size ≤ 10000)
  (h : ∀ h' x dx, Keeps s.heap h' → s.heap.get? x = none → h'.get? x = some (matchObj dx its) → P (.done (.ret (.ref x))) { s with heap := h' }) :
  wpAny (model pw w) A (Builtin.«tuple.__new__» ⟨[.ref 135, .ref T], []⟩) P E s := by
 have l1 := looks_instIn (M := model pw w) X (match_inst w)
 have l2 := looks_mroIn (M := model pw w) X (match_sub w)
 have l3 := match_base (M := model pw w) X
 have l4 := looks_findIn (M := model pw w) X (match_init w)
 have m1 : Looks (model pw w) s.heap (Bind.madeBy (.type "tuple")) (some "tuple.__new__") := Looks.of_pure PySem.F.called_tuple.made
 obtain ⟨oc, od, cd, sl, ho, e1, e2, e3, -⟩ := match_at X
 obtain ⟨o, hto, hc, n, hd⟩ := hT
 obtain ⟨hh, g, d, t, os⟩ := s
 unfold Builtin.«tuple.__new__»
 repeat (first | simp only [bne_self_eq_false, Bool.false_eq_true, if_false, if_true, Bool.not_true] | with_reducible refine wpAny_collect_seq T (.inr rfl) hto hc hd ?_ (by rw [sizeLine_eq]; lia) | lk)
 intro h' k
 have ho' := k _ _ ho
 refine wpAny_bind (wpAny_pure (wpAny_bind (wpAny_alloc (wpAny_bind ?_))))
 unfold newObj newObjAsIs classHasDel
 have hsz : ¬ its.toList.toArray.size > sizeLine := by rw [sizeLine_eq, Array.toArray_toList]; lia
 simp only [hsz, if_false]
 refine wpAny_bind (wpAny_bind (wpAny_alloc ?_))
 refine wpAny_pure (wpAny_bind (wpAny_bind (wpAny_load (Heap.get?_push_of_some _ (Heap.get?_push_of_some _ ho')) (wpAny_pure ?_))))
 dsimp only
 rw [e3]
 refine wpAny_pure (wpAny_pure ?_)
 rw [Array.toArray_toList]
 refine h _ _ h'.objs.size (fun b o' e => Heap.get?_push_of_some _ (Heap.get?_push_of_some _ (k b o' e))) ?_ (Heap.get?_push_size _ rfl)
 exact none_size (b0 := hh) (h := h'.push emptyDict) fun b o' e => Heap.get?_push_of_some _ (k b o' e)
theorem match_new_found (w : World) : findCls (KW w.params) (.ref 135) (.type "type") "__new__" = some (.get (.builtin "staticmethod.__get__") (.ref 136) .none (.ref 135)) := by k_is
theorem match_reads (w : World) : readsIn (KW w.params) 135 (.type "type") = true := by k_is
theorem match_static (w : World) : recIn (KW w.params) 136 "staticmethod" = some [.ref 82] := by k_is
theorem args_oi4 (a b c d : Value) : argsOk "object.__init__" ⟨[a, b, c, d], []⟩ := by unfold argsOk; kernel_rfl
theorem match_getnew {Q : Value → Shared → Prop} (X : (KW w.params).In s.heap) (h : Q (.ref 82) { s with toks := s.toks + 1 }) : wpAny (model pw w) A (getAttr (.ref 135) "__new__") Q E s := by
 refine cls_bind X (match_reads w) (match_new_found w) ?_
 refine wpAny_call (sm_get X (match_static w) ?_)
 exact handed_on rfl h

noncomputable def MatchNew (w : World) (R : Result → Shared → Prop) (r : Result) (s' : Shared) : Prop := ∃ x dx its, r = .ok (.ret (.ref x)) ∧ (KW w.params).In s'.heap ∧ s'.heap.get? x = some (matchObj dx its) ∧ R (.ok (.ret (.ref x))) s'
theorem make_match {a b c : Value} {R : Result → Shared → Prop} (X : (KW w.params).In s.heap)
  (hnew : ∀ tk, codeAny (model pw w) (A.under (.builtin "type.__call__" ⟨[.ref 135, a, b, c], []⟩)) (.call (.ref 82) ⟨[.ref 135, a, b, c], []⟩) (MatchNew w R) { s with toks := tk }) :
  codeAny (model pw w) A (.call (.ref 135) ⟨[a, b, c], []⟩) R s := by
 have c1 := looks_specialIn (M := model pw w) X (match_call w)
 have c2 := looks_instIn (M := model pw w) X (match_inst w)
 have c3 := match_mro (M := model pw w) X
 have c4 := match_made (M := model pw w) X
 obtain ⟨oc, od, cd, sl, hC, e1, e2, e3, -⟩ := match_at X
 obtain ⟨h, g, d, t, os⟩ := s
 refine codeAny_of_tree ?_
 show wpAny _ _ (callAny (.ref 135) _) _ _ _
 refine nd_load hC ?_
 show wpAny _ _ (callAny.viaDunder (.ref 135) _) _ _ _
 unfold callAny.viaDunder
 refine wpAny_bind (c1.at ?_)
 dsimp only
 rw [tc_bind]
 refine wpAny_bind (wpAny_pure (wpAny_bind (wpAny_pure ?_)))
 refine wpAny_pure (a := Fin.again (.call (.builtin "type.__call__") ⟨[.ref 135, a, b, c], []⟩)) (And.intro rfl ?_)
 refine codeAny_call_builtin_at (Code.quiet_builtin _ (by decide +kernel)) entry_typeCall (@check_slot (model pw w) _ _ _ "type.__call__" "type" "__call__" (.ref 135) [a, b, c] [] _ tc_kind tc_split c2 (tc_args (.ref 135) [a, b, c] []) ?_)
 unfold Builtin.«type.__call__»
 repeat (first | with_reducible refine match_getnew X ?_ | with_reducible refine wpAny_call ?_ | simp only [Bool.false_eq_true, if_false] | lk)
 refine codeAny_mono (hnew _) fun r s' z => ?_
 obtain ⟨x, dx, its, rfl, X', hx, hR⟩ := z
 clear hnew c1 c2 c3 c4 hC
 have d1 : Looks (model pw w) s'.heap (typeOf (.ref x)) (.ref 135) := (Looks.ld hx).andThen .now
 have d2 := looks_mroIn (M := model pw w) X' (match_self w)
 have d3 := looks_findIn (M := model pw w) X' (match_init w)
 obtain ⟨h', g', d', t', os'⟩ := s'
 dsimp only
 unfold isInstance callSpecial? specialOf
 have bi : Looks (model pw w) h' (bindSpecial (.builtin "object.__init__") (.ref x)) (.builtin "object.__init__", [.ref x]) := Looks.of_pure (oi_bind _)
 repeat (first | with_reducible refine wpAny_call ?_ | simp only [Bool.false_eq_true, if_false, Bool.not_true] | lk)
 have ins : Looks (model pw w) h' (isInstance (.ref x) (.type "object")) true := d1.andThen (looks_mroIn X' (match_top w))
 change codeAny _ _ (.call (.builtin "object.__init__") ⟨[.ref x, a, b, c], []⟩) _ _
 refine codeAny_call_builtin oi_plain entry_oi (@check_slot (model pw w) _ _ _ "object.__init__" "object" "__init__" (.ref x) [a, b, c] [] _ oi_kind oi_split ins (args_oi4 (.ref x) a b c) ?_)
 have d4 := match_made (M := model pw w) X'
 unfold Builtin.«object.__init__»
 repeat (first | simp only [Bool.false_eq_true, if_false, Bool.not_true] | lk)
 exact hR
theorem tn_call {T : Addr} {its : Array Value} {Q : Value → Shared → Prop} (C : Cx w s.heap) (hT : s.heap.IsTuple T its) (hz : its.size ≤ 10000)
  (h : ∀ h' x dx, Keeps s.heap h' → s.heap.get? x = none → h'.get? x = some (matchObj dx its) → Q (.ref x) { s with heap := h' }) :
  wpAny (model pw w) A (call (.builtin "tuple.__new__") [.ref 135, .ref T]) Q E s :=
 wpAny_call (codeAny_call_builtin tn_plain PySem.F.entry_tuple_new (tn_check C.X (tn_run C.X hT hz h)))
theorem tuple_new_found (w : World) : findCls (KW w.params) (.type "tuple") (.type "type") "__new__" = some (.val (.builtin "tuple.__new__")) := by k_is
end
end
section
noncomputable def KeyAt (h : Heap) (k : Addr) (x : Int × Int × Int) : Prop := ∃ ta tb tc, h.get? k = some (t3 x ta tb tc)
noncomputable def KeyEnd (x : Int × Int × Int) (s₁ : Shared) (r : Value) (s₂ : Shared) : Prop := ∃ h tk k, r = .ref k ∧ s₂ = { s₁ with heap := h, toks := tk } ∧ Keeps s₁.heap h ∧ KeyAt h k x
theorem KeyAt.but {h h' : Heap} {k a : Addr} {x : Int × Int × Int} {o : Obj} (H : KeyAt h k x) (e : h.get? a = some o) (hc : o.cls ≠ .type "tuple") (hs : ∀ b o, b ≠ a → h.get? b = some o → h'.get? b = some o) : KeyAt h' k x := by
 obtain ⟨ta, tb, tc, g⟩ := H
 refine ⟨ta, tb, tc, hs _ _ ?_ g⟩
 rintro rfl
 rw [g] at e; cases e
 exact hc rfl
theorem take_mem {α : Type} {xs : List α} {j : Nat} {x y : α} (hx : xs[j]? = some x) (hy : y ∈ xs.take (j + 1)) : y ∈ xs.take j ∨ y = x := by
 rw [List.take_add_one, hx] at hy
 rcases List.mem_append.mp hy with h | h
 ·exact .inl h
 ·exact .inr (by simpa using h)
section
variable {w : World} {A : Around} {E : Value → Shared → Prop} {s : Shared} {l q I S : Addr} {vs : List Value} {xs : List (Int × Int × Int)} {key : Int × Int × Int → Int × Int × Int} {b0 : Heap} {nn : Nat}
end
namespace cmin3_loop
noncomputable def zP (w : World) (A : Around) (s : Shared) (l q S : Addr) (vs : List Value) (xs : List (Int × Int × Int)) (key : Int × Int × Int → Int × Int × Int) (b0 : Heap) (nn : Nat) (R : Result → Shared → Prop) : Prop := ∀ (I : Addr) (hh : A.handled = none) (RR : Room A (nn + 1)) (hl : b0.IsList l vs.toArray) (nI : b0.get? I = none) (nS : b0.get? S = none) (hSI : S ≠ I) (el : vs.length = xs.length) (turn : ∀ (i : Nat) v x, vs[i]? = some v → xs[i]? = some x → ∀ h tk, Keeps b0 h → wpAny (model pw w) A.in1 (call (.ref q) [v]) (KeyEnd (key x) { s with heap := h, toks := tk }) (fun _ _ => False) { s with heap := h, toks := tk }) (hR : ∀ (i : Nat) v x h' tk, vs[i]? = some v → xs[i]? = some x → (∀ y ∈ xs, lt3 (key y) (key x) = false) → Keeps b0 h' → R (.ok (.ret v)) { s with heap := h', toks := tk }), ∀ (r j i : Nat) (h : Heap) (tk : Nat) (vb : Value) (xb : Int × Int × Int) (kb : Addr) (c : Nat), vs.length - j = r → j ≤ vs.length → Keeps b0 h → h.IsListIter I l j → h.get? S = some (seqObj "list" #[vb, .ref kb] c) → KeyAt h kb (key xb) →
   vs[i]? = some vb → xs[i]? = some xb → (∀ y ∈ xs.take j, lt3 (key y) (key xb) = false) → codeAny (model pw w) A (.builtin "min.loop" ⟨[.ref I, .ref q, .ref S], []⟩) R { s with heap := h, toks := tk }
noncomputable def zT (x : YY) : Prop := zP (x 1 0) (x 15 1) (x 5 2) (x 0 3) (x 0 4) (x 0 5) (x 4 6) (x 31 7) (x 42 8) (x 2 9) (x 0 10) (x 43 11)
noncomputable def zC := pickY zT
@[irreducible] noncomputable def w : World := zC 1 0
@[irreducible] noncomputable def A : Around := zC 15 1
@[irreducible] noncomputable def s : Shared := zC 5 2
@[irreducible] noncomputable def l : Addr := zC 0 3
@[irreducible] noncomputable def q : Addr := zC 0 4
@[irreducible] noncomputable def S : Addr := zC 0 5
@[irreducible] noncomputable def vs : List Value := zC 4 6
@[irreducible] noncomputable def xs : List (Int × Int × Int) := zC 31 7
@[irreducible] noncomputable def key : Int × Int × Int → Int × Int × Int := zC 42 8
@[irreducible] noncomputable def b0 : Heap := zC 2 9
@[irreducible] noncomputable def nn : Nat := zC 0 10
@[irreducible] noncomputable def R : Result → Shared → Prop := zC 43 11
theorem zA (h : zP w A s l q S vs xs key b0 nn R) : ∀ y, zT y := by with_unfolding_all exact pickY_spec zT h
theorem zK : zP w A s l q S vs xs key b0 nn R := by
 intro I hh RR hl nI nS hSI el turn hR
 have hname : (toString "min" ++ toString ".loop" : String) = "min.loop" := by decide
 have hlI : l ≠ I := by
  rintro rfl
  obtain ⟨o, ho, _⟩ := hl
  rw [nI] at ho; cases ho
 have W := Walks.list (prog := pw) (w := w) (A := A.in1) hh I l hlI vs.toArray
 have hsz : vs.toArray.size = vs.length := List.size_toArray ..
 intro r
 induction r with
 | zero =>
  intro j i h tk vb xb kb c hr hj K hit hS hk hvb hxb hbest
  have hin : j = vs.length := nZ hr hj
  refine codeAny_builtin PySem.F.entry_min_loop ?_
  rw [Around.under_plainId PySem.F.plain_min_loop _]
  show wpAny _ A.in1 (seqItems? (.ref S) >>= _) _ _ _
  refine wpAny_bind (wpAny_seqItems hS rfl ?_)
  show wpAny _ A.in1 (tryCatch (pyNext (.ref I)) _ >>= _) _ _ _
  refine wpAny_bind (wpAny_tryCatch (W.done _ _ _ ⟨by rw [hsz, ← hin]; exact hit, hl.at fun o e => K _ _ e⟩ fun h' tk' hk' => ?_))
  have hS' := hk' S _ (by simpa using hSI) hS
  show wpAny _ A.in1 (updateSeq S (fun _ => #[]) >>= _) _ _ _
  refine wpAny_bind (wpAny_updateSeq hS' rfl (wpAny_bind (wpAny_letGo (wpAny_pure ?_))))
  refine hR i vb xb _ _ hvb hxb (fun y hy => hbest y (by rw [List.take_of_length_le (by lia)]; exact hy)) fun b o e => ?_
  refine ((Heap.SameBut.update h' S (Obj.mapSeq fun _ => (#[] : Array Value))).2 b ?_).trans (hk' b o ?_ (K b o e))
  ·rintro rfl; rw [nS] at e; cases e
  ·intro hm; rw [List.mem_singleton.mp hm, nI] at e; cases e
 | succ r ih =>
  intro j i h tk vb xb kb c hr hj K hit hS hk hvb hxb hbest
  have hlt : j < vs.length := nQ hr
  obtain ⟨xj, hxj⟩ : ∃ x, xs[j]? = some x := ⟨_, List.getElem?_eq_getElem (by lia)⟩
  refine codeAny_builtin PySem.F.entry_min_loop ?_
  rw [Around.under_plainId PySem.F.plain_min_loop _]
  show wpAny _ A.in1 (seqItems? (.ref S) >>= _) _ _ _
  refine wpAny_bind (wpAny_seqItems hS rfl ?_)
  show wpAny _ A.in1 (tryCatch (pyNext (.ref I)) _ >>= _) _ _ _
  refine wpAny_bind (wpAny_tryCatch (W.item j _ _ _ (by rw [hsz]; exact hlt) ⟨hit, hl.at fun o e => K _ _ e⟩ fun v h' tk' hP hst' hk' => ?_))
  have hv : vs[j]? = some v := by simpa using hP
  obtain ⟨oI, eI, cI, _⟩ := id hit
  obtain ⟨oI', eI', cI', dI'⟩ := id hst'.1
  have K' : Keeps b0 h' := fun b o e => hk' b o (fun hm => by rw [List.mem_singleton.mp hm, nI] at e; cases e) (K b o e)
  have hkb' : KeyAt h' kb (key xb) := hk.but eI (by rw [cI]; decide) fun b o hb e => hk' b o (by simpa using hb) e
  have hS' := hk' S _ (by simpa using hSI) hS
  show wpAny _ A.in1 (tryCatch (holding [v] (call (.ref q) [v])) _ >>= _) _ _ _
  refine wpAny_bind (wpAny_tryCatch (wpAny_holding (wpAny_mono (turn j v xj hv hxj h' tk' K') (fun x s'' he => ?_) fun _ _ hF => hF.elim)))
  obtain ⟨h2, tk2, k2, rfl, rfl, K2, hk2⟩ := he
  have hS2 := K2 _ _ hS'
  have hit2 : h2.IsListIter I l (j + 1) := ⟨oI', K2 _ _ eI', cI', dI'⟩
  have hkb2 : KeyAt h2 kb (key xb) := let ⟨a, b, c, g⟩ := hkb'; ⟨a, b, c, K2 _ _ g⟩
  have Kb2 : Keeps b0 h2 := fun b o e => K2 b o (K' b o e)
  obtain ⟨ta, tb, tc, g1⟩ := id hk2
  obtain ⟨ua, ub, uc, g2⟩ := id hkb2
  show wpAny _ A.in1 (tryCatch (holding [v, .ref k2] (richCompare .Lt (.ref k2) (.ref kb) >>= _)) _ >>= _) _ _ _
  refine wpAny_bind (wpAny_tryCatch (wpAny_holding (wpAny_bind (rc_t3_lt (Room.unitsLt (Room.in1 RR)) g1 g2 ?_))))
  refine wpAny_bind (wpAny_holding (wpAny_truthy_bool ?_))
  refine wpAny_bind (wpAny_letGo (wpAny_pure ?_))
  cases hb : lt3 (key xj) (key xb) with
  | true =>
   have s1 := Heap.SameBut.update h2 S (Obj.mapSeq fun _ => #[v, .ref k2])
   obtain ⟨c2, hc2⟩ : ∃ c2, (h2.update S (Obj.mapSeq fun _ => #[v, .ref k2])).get? S = some (seqObj "list" #[v, .ref k2] c2) := ⟨_, get?_update_seq hS2 fun _ => #[v, .ref k2]⟩
   simp only [if_true]
   refine wpAny_bind (wpAny_updateSeq hS2 rfl (wpAny_bind (wpAny_letGo ?_)))
   rw [hname]
   refine wpAny_pure ⟨plainId_quiet PySem.F.plain_min_loop _, ih (j + 1) j _ _ v xj k2 c2 (nN hr) hlt (fun b o e => (s1.2 b ?_).trans (Kb2 b o e)) ⟨oI', (s1.2 I hSI.symm).trans (K2 _ _ eI'), cI', dI'⟩ hc2 (hk2.but hS2 (by show Value.type "list" ≠ _; decide) fun b o hb e => (s1.2 b hb).trans e) hv hxj fun y hy => ?_⟩
   ·rintro rfl; rw [nS] at e; cases e
   ·rcases take_mem hxj hy with hy | rfl
    ·exact lt3_step hb (hbest y hy)
    ·exact lt3_self _
  | false =>
   simp only [Bool.false_eq_true, if_false]
   refine wpAny_bind (wpAny_letGo ?_)
   rw [hname]
   refine wpAny_pure ⟨plainId_quiet PySem.F.plain_min_loop _, ih (j + 1) i _ _ vb xb kb c (nN hr) hlt Kb2 hit2 hS2 hkb2 hvb hxb fun y hy => ?_⟩
   rcases take_mem hxj hy with hy | rfl
   ·exact hbest y hy
   ·exact hb
end cmin3_loop
section
variable {w : World} {A : Around} {E : Value → Shared → Prop} {s : Shared} {l q I S : Addr} {vs : List Value} {xs : List (Int × Int × Int)} {key : Int × Int × Int → Int × Int × Int} {b0 : Heap} {nn : Nat}
theorem min3_loop {R : Result → Shared → Prop} (hh : A.handled = none) (RR : Room A (nn + 1)) (hl : b0.IsList l vs.toArray) (nI : b0.get? I = none) (nS : b0.get? S = none) (hSI : S ≠ I) (el : vs.length = xs.length)
  (turn : ∀ (i : Nat) v x, vs[i]? = some v → xs[i]? = some x → ∀ h tk, Keeps b0 h → wpAny (model pw w) A.in1 (call (.ref q) [v]) (KeyEnd (key x) { s with heap := h, toks := tk }) (fun _ _ => False) { s with heap := h, toks := tk })
  (hR : ∀ (i : Nat) v x h' tk, vs[i]? = some v → xs[i]? = some x → (∀ y ∈ xs, lt3 (key y) (key x) = false) → Keeps b0 h' → R (.ok (.ret v)) { s with heap := h', toks := tk }) :
  ∀ (r j i : Nat) (h : Heap) (tk : Nat) (vb : Value) (xb : Int × Int × Int) (kb : Addr) (c : Nat), vs.length - j = r → j ≤ vs.length → Keeps b0 h → h.IsListIter I l j → h.get? S = some (seqObj "list" #[vb, .ref kb] c) → KeyAt h kb (key xb) →
   vs[i]? = some vb → xs[i]? = some xb → (∀ y ∈ xs.take j, lt3 (key y) (key xb) = false) → codeAny (model pw w) A (.builtin "min.loop" ⟨[.ref I, .ref q, .ref S], []⟩) R { s with heap := h, toks := tk } := by
 exact cmin3_loop.zA cmin3_loop.zK (putY [⟨1, w⟩, ⟨15, A⟩, ⟨5, s⟩, ⟨0, l⟩, ⟨0, q⟩, ⟨0, S⟩, ⟨4, vs⟩, ⟨31, xs⟩, ⟨42, key⟩, ⟨2, b0⟩, ⟨0, nn⟩, ⟨43, R⟩]) I hh RR hl nI nS hSI el turn hR
end
namespace cmin3_key
noncomputable def zP (w : World) (A : Around) (E : Value → Shared → Prop) (s : Shared) (l q : Addr) (vs : List Value) (xs : List (Int × Int × Int)) (key : Int × Int × Int → Int × Int × Int) (nn : Nat) (Q : Value → Shared → Prop) : Prop := ∀ (hh : A.handled = none) (RR : Room A (nn + 1)) (hl : s.heap.IsList l vs.toArray) (hne : 0 < vs.length) (el : vs.length = xs.length) (turn : ∀ (i : Nat) v x, vs[i]? = some v → xs[i]? = some x → ∀ h tk, Keeps s.heap h → wpAny (model pw w) A.in1 (call (.ref q) [v]) (KeyEnd (key x) { s with heap := h, toks := tk }) (fun _ _ => False) { s with heap := h, toks := tk }) (hQ : ∀ (i : Nat) v x h' tk, vs[i]? = some v → xs[i]? = some x → (∀ y ∈ xs, lt3 (key y) (key x) = false) → Keeps s.heap h' → Q v { s with heap := h', toks := tk }), wpAny (model pw w) A (call (.builtin "min") [.ref l] [(Str.ofString "key", .ref q)]) Q E s
noncomputable def zT (x : YY) : Prop := zP (x 1 0) (x 15 1) (x 9 2) (x 5 3) (x 0 4) (x 0 5) (x 4 6) (x 31 7) (x 42 8) (x 0 9) (x 9 10)
noncomputable def zC := pickY zT
@[irreducible] noncomputable def w : World := zC 1 0
@[irreducible] noncomputable def A : Around := zC 15 1
@[irreducible] noncomputable def E : Value → Shared → Prop := zC 9 2
@[irreducible] noncomputable def s : Shared := zC 5 3
@[irreducible] noncomputable def l : Addr := zC 0 4
@[irreducible] noncomputable def q : Addr := zC 0 5
@[irreducible] noncomputable def vs : List Value := zC 4 6
@[irreducible] noncomputable def xs : List (Int × Int × Int) := zC 31 7
@[irreducible] noncomputable def key : Int × Int × Int → Int × Int × Int := zC 42 8
@[irreducible] noncomputable def nn : Nat := zC 0 9
@[irreducible] noncomputable def Q : Value → Shared → Prop := zC 9 10
theorem zA (h : zP w A E s l q vs xs key nn Q) : ∀ y, zT y := by with_unfolding_all exact pickY_spec zT h
theorem zK : zP w A E s l q vs xs key nn Q := by
 intro hh RR hl hne el turn hQ
 have hname : (toString "min" ++ toString ".loop" : String) = "min.loop" := by decide
 obtain ⟨ol, hol, _⟩ := id hl
 have hlI : l ≠ s.heap.objs.size := Nat.ne_of_lt (Heap.lt_size hol)
 refine kmk_tree PySem.F.kind_min PySem.F.plain_min PySem.F.entry_min (kmk_min_key _ _) ?_
 show wpAny _ A.in1 (Builtin.Builtins.bindParams "min" ["key", "default"] 0 ⟨[], [(Str.ofString "key", .ref q)]⟩ >>= _) _ _ s
 refine wpAny_bind (wpAny_of_eq (show Builtin.Builtins.bindParams "min" ["key", "default"] 0 ⟨[], [(Str.ofString "key", .ref q)]⟩ = pure [some (.ref q), none] from rfl) ?_)
 refine wpAny_bind (wpAny_pure (wpAny_bind (wpAny_pyIter_list hl (wpAny_bind (wpAny_newList ?_ (Nat.zero_le _))))))
 rw [hname]
 refine wpAny_pure ⟨plainId_quiet PySem.F.plain_min_loop _, ?_⟩
 obtain ⟨oI, hoI⟩ : ∃ oI : Obj, oI = { cls := .type "list_iterator", data := .fields #[.ref l, .int 0 0] } := ⟨_, rfl⟩
 rw [← hoI]
 have gI : (s.heap.push oI).get? s.heap.objs.size = some oI := Heap.get?_push_size _ (by rw [hoI]; rfl)
 have hS : (s.heap.push oI).objs.size = s.heap.objs.size + 1 := Heap.size_push ..
 have hSI : (s.heap.push oI).objs.size ≠ s.heap.objs.size := by lia
 have nI : s.heap.get? s.heap.objs.size = none := none_size fun _ _ e => e
 have nS : s.heap.get? (s.heap.push oI).objs.size = none := none_size fun _ _ e => Heap.get?_push_of_some _ e
 have gS : ((s.heap.push oI).push (seqObj "list" #[] 0)).get? (s.heap.push oI).objs.size = some (seqObj "list" #[] 0) := Heap.get?_push_size _ rfl
 have K0 : Keeps s.heap ((s.heap.push oI).push (seqObj "list" #[] 0)) := fun b o e => Heap.get?_push_of_some _ (Heap.get?_push_of_some _ e)
 have gI2 : ((s.heap.push oI).push (seqObj "list" #[] 0)).get? s.heap.objs.size = some oI := Heap.get?_push_of_some _ gI
 show codeAny _ _ (.builtin "min.loop" ⟨[.ref s.heap.objs.size, .ref q, .ref (s.heap.push oI).objs.size], []⟩) _ { s with heap := (s.heap.push oI).push (seqObj "list" #[] 0) }
 generalize (s.heap.push oI).push (seqObj "list" #[] 0) = h0 at gS K0 gI2 ⊢
 generalize (s.heap.push oI).objs.size = S at hS hSI nS gS ⊢
 generalize s.heap.objs.size = I at hlI gI hS hSI nI gI2 ⊢
 have W := Walks.list (prog := pw) (w := w) (A := A.in1) hh I l hlI vs.toArray
 have hsz : vs.toArray.size = vs.length := List.size_toArray ..
 obtain ⟨x0, hx0⟩ : ∃ x, xs[0]? = some x := ⟨_, List.getElem?_eq_getElem (by lia)⟩
 refine codeAny_builtin PySem.F.entry_min_loop ?_
 rw [Around.under_plainId PySem.F.plain_min_loop _]
 show wpAny _ A.in1 (seqItems? (.ref S) >>= _) _ _ _
 refine wpAny_bind (wpAny_seqItems gS rfl ?_)
 show wpAny _ A.in1 (tryCatch (pyNext (.ref I)) _ >>= _) _ _ _
 refine wpAny_bind (wpAny_tryCatch (W.item 0 _ _ _ (by rw [hsz]; exact hne) ⟨⟨_, gI2, by rw [hoI], by rw [hoI]; rfl⟩, hl.at fun o e => K0 _ _ e⟩ fun v h' tk' hP hst' hk' => ?_))
 have hv : vs[0]? = some v := by simpa using hP
 obtain ⟨oI', eI', cI', dI'⟩ := id hst'.1
 have K' : Keeps s.heap h' := fun b o e => hk' b o (fun hm => by rw [List.mem_singleton.mp hm, nI] at e; cases e) (K0 b o e)
 have hS' := hk' S _ (by simpa using hSI) gS
 show wpAny _ A.in1 (tryCatch (holding [v] (call (.ref q) [v])) _ >>= _) _ _ _
 refine wpAny_bind (wpAny_tryCatch (wpAny_holding (wpAny_mono (turn 0 v x0 hv hx0 h' tk' K') (fun x s'' he => ?_) fun _ _ hF => hF.elim)))
 obtain ⟨h2, tk2, k2, rfl, rfl, K2, hk2⟩ := he
 have hS2 := K2 _ _ hS'
 have Kb2 : Keeps s.heap h2 := fun b o e => K2 b o (K' b o e)
 have s1 := Heap.SameBut.update h2 S (Obj.mapSeq fun _ => #[v, .ref k2])
 obtain ⟨c2, hc2⟩ : ∃ c2, (h2.update S (Obj.mapSeq fun _ => #[v, .ref k2])).get? S = some (seqObj "list" #[v, .ref k2] c2) := ⟨_, get?_update_seq hS2 fun _ => #[v, .ref k2]⟩
 show wpAny _ A.in1 (updateSeq S (fun _ => #[v, .ref k2]) >>= _) _ _ _
 refine wpAny_bind (wpAny_updateSeq hS2 rfl ?_)
 rw [hname]
 refine wpAny_pure ⟨plainId_quiet PySem.F.plain_min_loop _, min3_loop (b0 := s.heap) hh RR hl nI nS hSI el turn hQ _ 1 0 _ _ v x0 k2 c2 rfl hne (fun b o e => (s1.2 b ?_).trans (Kb2 b o e)) ⟨oI', (s1.2 I hSI.symm).trans (K2 _ _ eI'), cI', dI'⟩ hc2 (hk2.but hS2 (by show Value.type "list" ≠ _; decide) fun b o hb e => (s1.2 b hb).trans e) hv hx0 fun y hy => ?_⟩
 ·rintro rfl; rw [nS] at e; cases e
 ·rcases take_mem hx0 hy with hy | rfl
  ·cases hy
  ·exact lt3_self _
end cmin3_key
section
variable {w : World} {A : Around} {E : Value → Shared → Prop} {s : Shared} {l q I S : Addr} {vs : List Value} {xs : List (Int × Int × Int)} {key : Int × Int × Int → Int × Int × Int} {b0 : Heap} {nn : Nat}
theorem min3_key {Q : Value → Shared → Prop} (hh : A.handled = none) (RR : Room A (nn + 1)) (hl : s.heap.IsList l vs.toArray) (hne : 0 < vs.length) (el : vs.length = xs.length)
  (turn : ∀ (i : Nat) v x, vs[i]? = some v → xs[i]? = some x → ∀ h tk, Keeps s.heap h → wpAny (model pw w) A.in1 (call (.ref q) [v]) (KeyEnd (key x) { s with heap := h, toks := tk }) (fun _ _ => False) { s with heap := h, toks := tk })
  (hQ : ∀ (i : Nat) v x h' tk, vs[i]? = some v → xs[i]? = some x → (∀ y ∈ xs, lt3 (key y) (key x) = false) → Keeps s.heap h' → Q v { s with heap := h', toks := tk }) :
  wpAny (model pw w) A (call (.builtin "min") [.ref l] [(Str.ofString "key", .ref q)]) Q E s := by
 exact cmin3_key.zA cmin3_key.zK (putY [⟨1, w⟩, ⟨15, A⟩, ⟨9, E⟩, ⟨5, s⟩, ⟨0, l⟩, ⟨0, q⟩, ⟨4, vs⟩, ⟨31, xs⟩, ⟨42, key⟩, ⟨0, nn⟩, ⟨9, Q⟩]) hh RR hl hne el turn hQ
end
end
section
noncomputable def pieceS (x : Int) : Str := if (x.fdiv 2).fmod 4 = 0 then Str.ofString "a" else if (x.fdiv 2).fmod 4 = 1 then Str.ofString "b" else if (x.fdiv 2).fmod 4 = 2 then Str.ofString "ab" else if (x.fdiv 8).fmod 2 = 1 then Str.ofString "" else Str.ofString "."
section
variable {x : Int}
theorem piece0 (h : (x.fdiv 2).fmod 4 = 0) : Str.ofString "a" = pieceS x := (if_pos h).symm
theorem piece1 (h : (x.fdiv 2).fmod 4 = 1) : Str.ofString "b" = pieceS x := by unfold pieceS; rw [if_neg (by lia), if_pos h]
theorem piece2 (h : (x.fdiv 2).fmod 4 = 2) : Str.ofString "ab" = pieceS x := by unfold pieceS; rw [if_neg (by lia), if_neg (by lia), if_pos h]
theorem piece3 (h : (x.fdiv 2).fmod 4 = 3) (g : (x.fdiv 8).fmod 2 = 1) : Str.ofString "" = pieceS x := by unfold pieceS; rw [if_neg (by lia), if_neg (by lia), if_neg (by lia), if_pos g]
theorem piece4 (h : (x.fdiv 2).fmod 4 = 3) (g : ¬ (x.fdiv 8).fmod 2 = 1) : Str.ofString "." = pieceS x := by unfold pieceS; rw [if_neg (by lia), if_neg (by lia), if_neg (by lia), if_neg g]
theorem str_is {P : Str → Prop} {a b : Str} {t : Tok} (e : a = b) : ∃ u, Value.str a t = Value.str b u := ⟨t, by rw [e]⟩
end
noncomputable def rowStep (a : List Str × List Str) (x : Int) : List Str × List Str :=
 if x.fmod 2 = 0 then (if a.1.length < 6 then (a.1 ++ [pieceS x], a.2) else a) else (if a.2.length < 6 then (a.1, a.2 ++ [pieceS x]) else a)
noncomputable def rowsS (ns : List Int) : List Str × List Str := ns.foldl rowStep ([], [])
section
variable {a : List Str × List Str} {x : Int}
theorem row0a (h : x.fmod 2 = 0) (z : a.1.length < 6) : rowStep a x = (a.1 ++ [pieceS x], a.2) := by unfold rowStep; rw [if_pos h, if_pos z]
theorem row0b (h : x.fmod 2 = 0) (z : ¬ a.1.length < 6) : rowStep a x = a := by unfold rowStep; rw [if_pos h, if_neg z]
theorem row1a (h : x.fmod 2 = 1) (z : a.2.length < 6) : rowStep a x = (a.1, a.2 ++ [pieceS x]) := by unfold rowStep; rw [if_neg (by lia), if_pos z]
theorem row1b (h : x.fmod 2 = 1) (z : ¬ a.2.length < 6) : rowStep a x = a := by unfold rowStep; rw [if_neg (by lia), if_neg z]
end
theorem fmod_two (x : Int) : x.fmod 2 = 0 ∨ x.fmod 2 = 1 := by rw [Int.fmod_eq_emod_of_nonneg _ (by decide)]; lia
theorem ints_item {vs : List Value} {xs : List Int} (h : IntsAre vs xs) : ∀ {k : Nat} {v : Value}, vs[k]? = some v → ∃ x t, v = .int x t ∧ xs[k]? = some x := by
 intro k v e
 have hl := h.length
 have hk : k < vs.length := (List.getElem?_eq_some_iff.mp e).1
 have hk' : k < xs.length := by lia
 obtain ⟨t, ht⟩ := h.get k xs[k] (by simp [hk'])
 rw [e] at ht
 exact ⟨_, t, Option.some.inj ht, by simp [hk']⟩
end
section
noncomputable def wgt (l : List Str) : Nat := (l.map (·.length)).sum + l.length
theorem wgt_cons (x : Str) (l : List Str) : wgt (x :: l) = x.length + 1 + wgt l := by simp only [wgt, List.map_cons, List.sum_cons, List.length_cons]; lia
theorem wgt_filter (f : Str → Bool) : ∀ l : List Str, wgt (l.filter f) ≤ wgt l
 | [] => Nat.le_refl _
 | x :: l => by
  have := wgt_filter f l
  rw [List.filter_cons]
  split
  ·rw [wgt_cons, wgt_cons]; lia
  ·rw [wgt_cons]; lia
theorem wgt_cpre : ∀ X Y : List Str, wgt (cpre X Y) ≤ wgt X
 | [], _ => by simp [cpre]
 | x :: xs, [] => by simp [cpre, wgt]
 | x :: xs, y :: ys => by
  have := wgt_cpre xs ys
  unfold cpre
  split
  ·rw [wgt_cons, wgt_cons]; lia
  ·simp [wgt]
theorem wgt_common {p : Str} {Y : List Str} (z : p.length ≤ 1000) : wgt (cpre ((Txt.split p (Str.ofString "/")).filter isNm) Y) ≤ 1001 := by
 have a := wgt_cpre ((Txt.split p (Str.ofString "/")).filter isNm) Y
 have b := wgt_filter isNm (Txt.split p (Str.ofString "/"))
 have c := split_weight p (Str.ofString "/") (by decide +kernel)
 unfold wgt at *
 lia
theorem cmn_len {p : Str} {Y : List Str} (z : p.length ≤ 1000) : (Txt.join (Str.ofString "/") (cpre ((Txt.split p (Str.ofString "/")).filter isNm) Y)).length ≤ 3000 := by
 have a := wgt_common (Y := Y) z
 have b := StrLaws.join_length_le (Str.ofString "/") (cpre ((Txt.split p (Str.ofString "/")).filter isNm) Y)
 rw [slash_length] at b
 unfold wgt at a
 unfold Txt.join
 rw [StrLaws.glued_eq_join]
 lia
end
section
section
variable {prog : Program} {w : World} {A : Around} {E : Value → Shared → Prop} {s : Shared} {h₀ : Heap} {L : Addr} {news : List (Addr × Obj)}
theorem item_led {value slice : Expr} {l : Addr} {v : List Value} {i : Nat} {x : Value} {u : Tok} {Q : Value → Shared → Prop} (N : News h₀ L s.heap news) (hm : (l, PyProof.Rows.LCg.lst v) ∈ news) (hx : v[i]? = some x) (hz : i < 100000) (h : Q x s)
  (hs : subscripted slice false (.ref l) (.int i u) = operate [.ref l, .int i u] (getItem (.ref l) (.int i u)) := by with_unfolding_all rfl) (hg : ∀ r, letTemporaryGo value (.ref l) r = pure () := by intro _; with_unfolding_all rfl) :
  wpAny (model prog w) A (subscriptTail value slice (.ref l) (.int i u)) Q E s := by
 have hl : s.heap.IsList l v.toArray := ⟨_, (N _ hm).1, rfl, _, rfl⟩
 exact item_list hl (by lia) (by lia) (by simpa using hx) h hs hg
end
theorem slice_led {prog : Program} {w : World} {A : Around} {E : Value → Shared → Prop} {h₀ : Heap} {L : Addr} {news : List (Addr × Obj)} {value slice : PySem.Expr} {l : Addr} {v : List Value} {i : Nat} {t : Tok} {m : Str → Option Value} {Q : Value → Shared → Prop} {g : Heap} {s : Shared} {tk : Nat}
  (F : Fr h₀ L g m) (N : News h₀ L g news) (hm : (l, PyProof.Rows.LCg.lst v) ∈ news) (hi : i ≤ v.length) (hz : v.length ≤ 10000)
  (hs : subscripted slice false (.ref l) (.ref g.objs.size) = operate [.ref g.objs.size, .ref l] (getItem (.ref l) (.ref g.objs.size))) (ht : ∀ r, letTemporaryGo value (.ref l) r = pure ())
  (h : ∀ D h', Fr h₀ L h' m → News h₀ L h' ((D, listOf (v.take i).toArray 0) :: news) → (∀ p ∈ news, p.1 < D) → Q (.ref D) { s with heap := h', toks := tk }) :
  wpAny (model prog w) A (subscriptTail value slice (.ref l) (.ref g.objs.size)) Q E { s with heap := g.push { cls := .type "slice", data := .fields #[.none, .int i t, .none] }, toks := tk } := by
 refine kms_slice_lit (s := { s with heap := g, toks := tk }) (zs := v.take i) F N ⟨_, (N _ hm).1, rfl, _, rfl⟩ .none (.int _ _) ?_ h hs ht ?_
 ·show kms_pick v none (some (i : Int)) = _
  unfold kms_pick kms_lo kms_hi
  simp only [List.drop_zero]
  rw [if_neg (by lia)]
  congr 1
  simp; lia
 ·rw [sizeLine_eq, List.size_toArray]; lia
end
section
inductive RowsJ (ns : List Int) (k : Nat) (m : Str → Option Value) (news : List (Addr × Obj)) : Prop
 | mk (l l0 l1 its0 k0 its1 k1 : _) (e0 : news = [(l, listOf #[.ref l0, .ref l1] 0), (l1, listOf its1 k1), (l0, listOf its0 k0)]) (e1 : @LT.lt Nat _ l0 l1) (e2 : @LT.lt Nat _ l1 l) (e3 : m (Str.ofString "rows") = some (.ref l)) (e4 : StrsAre its0.toList ((ns.take k).foldl rowStep ([], [])).1) (e5 : StrsAre its1.toList ((ns.take k).foldl rowStep ([], [])).2) (e6 : its0.size ≤ 6) (e7 : its1.size ≤ 6) : RowsJ ns k m news
theorem four {z : Int} (h0 : 0 ≤ z) (h4 : z < 4) : z = 0 ∨ z = 1 ∨ z = 2 ∨ z = 3 := by
 obtain ⟨n, rfl⟩ := Int.eq_ofNat_of_zero_le h0
 have h : n < 4 := Int.ofNat_lt.mp h4
 rcases n with _ | _ | _ | _ | n
 ·exact .inl rfl
 ·exact .inr (.inl rfl)
 ·exact .inr (.inr (.inl rfl))
 ·exact .inr (.inr (.inr rfl))
 ·exact absurd h (Nat.not_lt.mpr (Nat.le_add_left 4 n))
noncomputable section
namespace crows2_
noncomputable def zP (w : World) (A : Around) (E : Value → Shared → Prop) (s : Shared) (Q : Value → Shared → Prop) (a : Addr) (vs : List Value) (ns : List Int) : Prop := ∀ (C : Cx w s.heap) (R : Room A 3) (la : s.heap.IsList a vs.toArray) (sa : IntsAre vs ns) (zx : ns.length ≤ 100) (hQ : ∀ h' tk l l0 l1 k its0 k0 its1 k1, Keeps s.heap h' → s.heap.get? l = none → s.heap.get? l0 = none → s.heap.get? l1 = none → h'.get? l = some (listOf #[.ref l0, .ref l1] k) → h'.get? l0 = some (listOf its0 k0) → h'.get? l1 = some (listOf its1 k1) → StrsAre its0.toList (rowsS ns).1 → StrsAre its1.toList (rowsS ns).2 → its0.size ≤ 6 → its1.size ≤ 6 → Q (.ref l) {s with heap := h', toks := tk}), wpAny (model pw w) A (call (.ref 359) [.ref a]) Q E s
noncomputable def zT (x : YY) : Prop := zP (x 1 0) { depth := (x 0 1), frames := (x 10 2), guards := (x 11 3), units := (x 0 4) } (x 9 5) (x 5 6) (x 9 7) (x 0 8) (x 4 9) (x 41 10)
noncomputable def zC := pickY zT
@[irreducible] def w : World := zC 1 0
def d0 : Nat := zC 0 1
@[irreducible] def fr0 : Option (List Env) := zC 10 2
@[irreducible] def gd0 : Option (List Code) := zC 11 3
def u0 : Nat := zC 0 4
@[irreducible] def E : Value → Shared → Prop := zC 9 5
@[irreducible] def s : Shared := zC 5 6
@[irreducible] def Q : Value → Shared → Prop := zC 9 7
def a : Addr := zC 0 8
@[irreducible] def vs : List Value := zC 4 9
@[irreducible] def ns : List Int := zC 41 10
theorem zA (h : zP w { depth := d0, frames := fr0, guards := gd0, units := u0 } E s Q a vs ns) : ∀ y, zT y := by with_unfolding_all exact pickY_spec zT h
namespace zB
noncomputable def zQ : {zz : Heap → Nat → Nat → Addr → Obj → (Str → Option Value) → Heap → Nat → Addr → Addr → Addr → (Array Value) → Nat → (Array Value) → Nat → Tok → Prop // (∀ zy10 zy13 k I oI m h tk l l0 l1 its0 k0 its1 k1 tx, zz zy10 zy13 k I oI m h tk l l0 l1 its0 k0 its1 k1 tx) → zP w { depth := d0, frames := fr0, guards := gd0, units := u0 } E s Q a vs ns} := ⟨_, by
 intro zh
 intro C R la sa zx hQ
 w_on
 w_strict (
  (rename Room _ _ => R0); refine wpAny_call ?_
  refine' enter [(Str.ofString "numbers", .ref a)] ?k1 ?k6 ?k7 ?k8 ?k9 ?kB ?_ ?c2 ?c3 ?c4 ?c5
  ( k_dflt ((case k1 => assumption); (case k6 => k_is); (case k7 => k_is); (case k8 => assumption); (case k9 => walk_at "my binds"); (case c5 => decide); (case kB => exact locs rfl); (case c2 => exact rfl); (case c3 => exact rfl); (case c4 => exact rfl); intro h' F' N' R'; (try dsimp only at F'); (try dsimp only)); have X := Cx.X (by assumption); obtain ⟨mg, mb, T⟩ := Cx.T (by assumption))
  walk_at "my steps"
  refine wpAny_For ?_ (by intro _; rfl)
  walk_at "my steps"
  refine iter_listL (L := s.heap.objs.size) rfl rfl (la.at fun o e => Fr.keep (by walk_at "a") _ _ e) (RowsJ ns) (by walk_at "a") (by walk_at "a") ⟨_, _, _, _, _, _, _, rfl, ?_, ?_, rfl, .nil, .nil, by decide, by decide⟩ (.inl (let ⟨o, ho, _⟩ := la; ⟨o, ho⟩)) (fun _ _ _ _ _ _ q => go_name q) ?_ ?_
  ·(first | lia | omega)
  ·(first | lia | omega)
  ·rintro k v I oI m news h tk hv ⟨l, l0, l1, its0, k0, its1, k1, rfl, lt0, lt1, m1, s0, s1, z0, z1⟩ hne hlt F N
   obtain ⟨x, tx, rfl, hx⟩ := ints_item sa (by simpa using hv)
   have st : (ns.take (k + 1)).foldl rowStep ([], []) = rowStep ((ns.take k).foldl rowStep ([], [])) x := by rw [List.take_add_one, hx]; simp
   simp only [AllNe] at hne
   have e0 : its0.size = ((ns.take k).foldl rowStep ([], [])).1.length := by rw [← Array.length_toList]; exact StrsAre.length s0
   have e1 : its1.size = ((ns.take k).foldl rowStep ([], [])).2.length := by rw [← Array.length_toList]; exact StrsAre.length s1
   rename_i zy1 zy2 zy3 zy4 zy5 zy6 zy7 zy8 zy9 zy10 zy11 zy12 zy13
   clear hv hx hlt zy12 zy11 zy9 zy8 zy7 zy6 zy5 zy4 zy3 zy2 zy1 T mb mg X R' h' hQ zx sa la R0
   revert C lt0 lt1 m1 s0 s1 z0 z1 hne F N x st e0 e1
   revert zy10 zy13 k I oI m h tk l l0 l1 its0 k0 its1 k1 tx
   exact @zh
  ·rintro m news h tk ⟨l, l0, l1, its0, k0, its1, k1, rfl, lt0, lt1, m1, s0, s1, z0, z1⟩ F N
   walk_at "my steps"
   have lv := IntsAre.length sa
   rw [List.take_of_length_le (by rw [List.size_toArray, lv]; exact Nat.le_refl _)] at s0 s1
   exact hQ _ _ l l0 l1 _ _ _ _ _ (Fr.keep F) (N.fresh (.head _)) (N.fresh (.tail _ (.tail _ (.head _)))) (N.fresh (.tail _ (.head _))) (N.get (.head _)) (N.get (.tail _ (.tail _ (.head _)))) (N.get (.tail _ (.head _))) s0 s1 z0 z1)
 ⟩
noncomputable def zT (x : YY) : Prop := zQ.1 (x 2 0) (x 0 1) (x 0 2) (x 0 3) (x 3 4) (x 6 5) (x 2 6) (x 0 7) (x 0 8) (x 0 9) (x 0 10) (x 29 11) (x 0 12) (x 29 13) (x 0 14) (x 0 15)
noncomputable def zC := pickY zT
@[irreducible] def zy10 : Heap := zC 2 0
def zy13 : Nat := zC 0 1
def k : Nat := zC 0 2
def I : Addr := zC 0 3
@[irreducible] def oI : Obj := zC 3 4
def m : Str → Option Value := zC 6 5
@[irreducible] def h : Heap := zC 2 6
def tk : Nat := zC 0 7
def l : Addr := zC 0 8
def l0 : Addr := zC 0 9
def l1 : Addr := zC 0 10
@[irreducible] def its0 : Array Value := zC 29 11
def k0 : Nat := zC 0 12
@[irreducible] def its1 : Array Value := zC 29 13
def k1 : Nat := zC 0 14
def tx : Tok := zC 0 15
theorem zA (h : zQ.1 zy10 zy13 k I oI m h tk l l0 l1 its0 k0 its1 k1 tx) : ∀ y, zT y := by with_unfolding_all exact pickY_spec zT h
theorem zK : zQ.1 zy10 zy13 k I oI m h tk l l0 l1 its0 k0 its1 k1 tx := by
 intro C lt0 lt1 m1 s0 s1 z0 z1 hne F N x st e0 e1
 w_on
 w_strict (
  have X := Cx.X (by assumption)
  obtain ⟨mg, mb, T⟩ := Cx.T (by assumption)
  have q5 : 0 ≤ (x.fdiv 2).fmod 4 := Int.fmod_nonneg_of_pos _ (by decide)
  have q6 : (x.fdiv 2).fmod 4 < 4 := Int.fmod_lt_of_pos _ (by decide)
  have q4 := four q5 q6
  have q7 : 0 ≤ x.fmod 2 ∧ x.fmod 2 < 2 := ⟨Int.fmod_nonneg_of_pos _ (by decide), Int.fmod_lt_of_pos _ (by decide)⟩
  have zz0 : its0.size ≤ 16777216 := Nat.le_trans z0 (by decide)
  have zz1 : its1.size ≤ 16777216 := Nat.le_trans z1 (by decide)
  have y0 : ((ns.take k).foldl rowStep ([], [])).1.length < 2 ^ 62 := by rw [← e0]; exact Nat.lt_of_le_of_lt z0 (by decide)
  have y1 : ((ns.take k).foldl rowStep ([], [])).2.length < 2 ^ 62 := by rw [← e1]; exact Nat.lt_of_le_of_lt z1 (by decide)
  rcases fmod_two x with hx2 | hx2
  ·repeat' (first | ((fail_if_success walk_at "my stop"); (fail_if_success with_reducible show wpAny _ _ (eval (Expr.Subscript (Expr.Tuple _ _ _) _ _) _) _ _ _); first | (walk1; (try dsimp only)) | (dsimp only; (fail_if_success walk_at "my stop"); walk1; (try dsimp only))))
   ·refine' cut_eval ?F ?N (fun v => ∃ t, v = .str (pieceS x) t) ?c1 ?c2
    case F => walk_at "a"
    case N => walk_at "a"
    case c1 =>
     walk_at "my steps"
     all_goals (
      refine' cut_end (by walk_at "a") (by walk_at "a") ?cp ?cs
      case cs => walk_at "my sub"
      case cp => first | exact str_is (P := fun _ => True) (piece0 (by walk_at "a")) | exact str_is (P := fun _ => True) (piece1 (by walk_at "a")) | exact str_is (P := fun _ => True) (piece2 (by walk_at "a")) | exact str_is (P := fun _ => True) (piece3 (by walk_at "a") (by walk_at "a")) | exact str_is (P := fun _ => True) (piece4 (by walk_at "a") (by walk_at "a")))
    case c2 =>
     rintro _ h tk ⟨t, rfl⟩ F N
     have st' := st.trans (row0a hx2 (by (first | lia | omega)))
     walk_at "my steps"
     refine' fnext (by walk_at "a") (by walk_at "a") ?wj ?ws ?wn
     case wj =>
      refine' ⟨l, l0, l1, its0.push (.str (pieceS x) t), k0 + 1, its1, k1, rfl, lt0, lt1, ?look, ?s0, ?s1, ?z0, ?z1⟩
      case look => walk_at "my look"
      case s0 => rw [st']; simpa using StrsAre.snoc s0 _ _
      case s1 => rw [st']; exact s1
      case z0 => (simp; (first | lia | omega))
      case z1 => exact z1
     case ws => walk_at "my sub"
     case wn => simp only [AllNe]; (first | lia | omega)
   ·have st' := st.trans (row0b hx2 (by (first | lia | omega)))
    refine' fnext (by walk_at "a") (by walk_at "a") ?wj ?ws ?wn
    case wj =>
     refine' ⟨l, l0, l1, its0, k0, its1, k1, rfl, lt0, lt1, ?look, ?s0, ?s1, z0, z1⟩
     case look => walk_at "my look"
     case s0 => rw [st']; exact s0
     case s1 => rw [st']; exact s1
    case ws => walk_at "my sub"
    case wn => simp only [AllNe]; (first | lia | omega)
  ·repeat' (first | ((fail_if_success walk_at "my stop"); (fail_if_success with_reducible show wpAny _ _ (eval (Expr.Subscript (Expr.Tuple _ _ _) _ _) _) _ _ _); first | (walk1; (try dsimp only)) | (dsimp only; (fail_if_success walk_at "my stop"); walk1; (try dsimp only))))
   ·refine' cut_eval ?F ?N (fun v => ∃ t, v = .str (pieceS x) t) ?c1 ?c2
    case F => walk_at "a"
    case N => walk_at "a"
    case c1 =>
     walk_at "my steps"
     all_goals (
      refine' cut_end (by walk_at "a") (by walk_at "a") ?cp ?cs
      case cs => walk_at "my sub"
      case cp => first | exact str_is (P := fun _ => True) (piece0 (by walk_at "a")) | exact str_is (P := fun _ => True) (piece1 (by walk_at "a")) | exact str_is (P := fun _ => True) (piece2 (by walk_at "a")) | exact str_is (P := fun _ => True) (piece3 (by walk_at "a") (by walk_at "a")) | exact str_is (P := fun _ => True) (piece4 (by walk_at "a") (by walk_at "a")))
    case c2 =>
     rintro _ h tk ⟨t, rfl⟩ F N
     have st' := st.trans (row1a hx2 (by (first | lia | omega)))
     walk_at "my steps"
     refine' fnext (by walk_at "a") (by walk_at "a") ?wj ?ws ?wn
     case wj =>
      refine' ⟨l, l0, l1, its0, k0, its1.push (.str (pieceS x) t), k1 + 1, rfl, lt0, lt1, ?look, ?s0, ?s1, ?z0, ?z1⟩
      case look => walk_at "my look"
      case s0 => rw [st']; exact s0
      case s1 => rw [st']; simpa using StrsAre.snoc s1 _ _
      case z0 => exact z0
      case z1 => (simp; (first | lia | omega))
     case ws => walk_at "my sub"
     case wn => simp only [AllNe]; (first | lia | omega)
   ·have st' := st.trans (row1b hx2 (by (first | lia | omega)))
    refine' fnext (by walk_at "a") (by walk_at "a") ?wj ?ws ?wn
    case wj =>
     refine' ⟨l, l0, l1, its0, k0, its1, k1, rfl, lt0, lt1, ?look, ?s0, ?s1, z0, z1⟩
     case look => walk_at "my look"
     case s0 => rw [st']; exact s0
     case s1 => rw [st']; exact s1
    case ws => walk_at "my sub"
    case wn => simp only [AllNe]; (first | lia | omega))
end zB
theorem zK : zP w { depth := d0, frames := fr0, guards := gd0, units := u0 } E s Q a vs ns := zB.zQ.2 fun zy10 zy13 k I oI m h tk l l0 l1 its0 k0 its1 k1 tx => zB.zA zB.zK (putY [⟨2, zy10⟩, ⟨0, zy13⟩, ⟨0, k⟩, ⟨0, I⟩, ⟨3, oI⟩, ⟨6, m⟩, ⟨2, h⟩, ⟨0, tk⟩, ⟨0, l⟩, ⟨0, l0⟩, ⟨0, l1⟩, ⟨29, its0⟩, ⟨0, k0⟩, ⟨29, its1⟩, ⟨0, k1⟩, ⟨0, tx⟩])
end crows2_
end
theorem rows2_ {w : World} {A : Around} {E : Value → Shared → Prop} {s : Shared} {Q : Value → Shared → Prop} {a : Addr} {vs : List Value} {ns : List Int} : crows2_.zP w A E s Q a vs ns := by
 intro C R
 obtain ⟨hd0, d0, fr0, gd0, u0⟩ := A
 have hh0 := Room.handled R
 dsimp only at hh0
 subst hh0
 exact crows2_.zA crows2_.zK (putY [⟨1, w⟩, ⟨0, d0⟩, ⟨10, fr0⟩, ⟨11, gd0⟩, ⟨0, u0⟩, ⟨9, E⟩, ⟨5, s⟩, ⟨9, Q⟩, ⟨0, a⟩, ⟨4, vs⟩, ⟨41, ns⟩]) C R
end
section
theorem news_add {h₀ h : Heap} {L D : Addr} {o : Obj} {news : List (Addr × Obj)} (N : News h₀ L h news) (hD : h.get? D = some o) (h0 : h₀.get? D = none) (hL : D ≠ L) : News h₀ L h ((D, o) :: news) := fun p hp => by
 rcases List.mem_cons.mp hp with rfl | hp
 ·exact ⟨hD, hL, h0⟩
 ·exact N p hp
theorem sizes_two {vs : List Value} {x y : Value} (hl : vs.length = 2) (h : ∀ (j : Nat) (v u : Value), vs[j]? = some v → (#[x, y] : Array Value)[j]? = some u → v = u) : vs = [x, y] := by
 rcases vs with _ | ⟨a, _ | ⟨b, _ | ⟨c, r⟩⟩⟩ <;> simp at hl
 rw [h 0 a x rfl rfl, h 1 b y rfl rfl]
theorem fspath_map {w : World} {b0 : Heap} {p q : Str} {tp tq : Tok} (C : Cx w b0) : MapCall w 2 b0 (.ref 319) #[.str p tp, .str q tq] (fun x v _ => v = x) := by
 intro A i x s rm hx k
 have key : ∀ (p : Str) (t : Tok), x = .str p t → wpAny (model pw w) A (call (.ref 319) [x]) (fun v s' => ∃ h' tk, s' = { s with heap := h', toks := tk } ∧ Keeps s.heap h' ∧ v = x) (fun _ _ => False) s := fun p t e => by
  subst e
  exact fspath_ (C.keeps k) rm fun h' tk K => ⟨h', tk, rfl, K, rfl⟩
 match i with
 | 0 => exact key p tp (by cases hx; rfl)
 | 1 => exact key q tq (by cases hx; rfl)
 | i + 2 => simp at hx
theorem stable_eq : Stable (fun x v _ => v = x) := fun _ _ _ _ h _ => h
theorem ne_frame {h₀ h b0 : Heap} {L D : Addr} {m : Str → Option Value} (F : Fr h₀ L b0 m) (hD : b0.get? D = none) : D ≠ L := by
 rintro rfl
 obtain ⟨o, _, _, ho, _⟩ := F.ns
 rw [hD] at ho; cases ho
theorem none_base {h₀ b0 : Heap} {L D : Addr} {m : Str → Option Value} (F : Fr h₀ L b0 m) (hD : b0.get? D = none) : h₀.get? D = none := by
 cases e : h₀.get? D with
 | none => rfl
 | some o => rw [F.keep _ _ e] at hD; cases hD
noncomputable def keepV : Value → Bool
 | .str c _ => isNm c
 | _ => false
theorem keep_nilZ {x : Str} {t : Tok} (h : (x.length : Int) = 0) : false = keepV (.str x t) := by
 have : x = Str.ofString "" := str_nil (by lia)
 subst this; rfl
theorem keep_dot {x : Str} {t : Tok} (h : (x != Str.ofString ".") = false) : false = keepV (.str x t) := by
 have : x = Str.ofString "." := by simpa using h
 subst this; rfl
theorem keep_yes {x : Str} {t : Tok} (hl : (x.length : Int) ≠ 0) (h : (x != Str.ofString ".") = true) : true = keepV (.str x t) := by
 have h1 : (x == Str.ofString ".") = false := by simpa using h
 have h2 : (x == Str.ofString "") = false := by
  cases e : x == Str.ofString "" with
  | false => rfl
  | true =>
   have e' : x = Str.ofString "" := by simpa using e
   subst e'; exact absurd rfl hl
 simp only [keepV, isNm, h1, h2]; rfl
noncomputable def nms (p : Str) : List Str := (Txt.split p (Str.ofString "/")).filter isNm
theorem nms_len {p : Str} (z : p.length ≤ 1000) : (nms p).length ≤ 1002 := by
 have a := List.length_filter_le isNm (Txt.split p (Str.ofString "/"))
 have b := split_le p (Str.ofString "/")
 unfold nms; lia
theorem filter_vals {l : List (Str × Tok)} {p : Str} (e : List.map (fun x => x.1) l = Txt.split p (Str.ofString "/")) : StrsAre ((strValues l).toArray.toList.filter keepV) (nms p) := by
 unfold nms
 rw [← e]
 clear e
 induction l with
 | nil => exact .nil
 | cons a l ih =>
  show StrsAre (List.filter keepV (Value.str a.1 a.2 :: strValues l)) (List.filter isNm (a.1 :: List.map (fun x => x.1) l))
  rw [List.filter_cons, List.filter_cons]
  show StrsAre (if isNm a.1 = true then _ else _) _
  split
  ·exact .cons _ _ ih
  ·exact ih
section
open PyProof.Rows.LCg
theorem comp_end_same {h₀ : Heap} {L I C D : Addr} {m : Str → Option Value} {s₁ : Shared} {oI oC oD : Obj} {S : List (Addr × Obj) → Prop} {rest : Value → List (Addr × Obj) → Prop} {h6 : Heap} {tk6 : Nat} {y : Value} {news : List (Addr × Obj)}
  (F : Fr h₀ L h6 m) (N : News h₀ L h6 ((I, oI) :: (C, oC) :: (D, oD) :: news)) (off : Off3 I C D news) (hS : S news) (r : rest y news) :
  CompEnd h₀ L m s₁ I oI C oC D oD S rest y { s₁ with heap := h6, toks := tk6 } := CompEnd.intro F N news (fun _ h => h) off hS r
theorem comp_end_made {h₀ : Heap} {L I C D D6 : Addr} {m : Str → Option Value} {s₁ : Shared} {oI oC oD o6 : Obj} {S : List (Addr × Obj) → Prop} {rest : Value → List (Addr × Obj) → Prop} {h6 : Heap} {tk6 : Nat} {news : List (Addr × Obj)}
  (F : Fr h₀ L h6 m) (N : News h₀ L h6 ((D6, o6) :: (I, oI) :: (C, oC) :: (D, oD) :: news)) (o1 : Off1 D6 ((I, oI) :: (C, oC) :: (D, oD) :: news)) (off : Off3 I C D news) (hS : S ((D6, o6) :: news)) (r : rest (.ref D6) ((D6, o6) :: news)) :
  CompEnd h₀ L m s₁ I oI C oC D oD S rest (.ref D6) { s₁ with heap := h6, toks := tk6 } :=
 CompEnd.intro F N ((D6, o6) :: news) (fun q hq => by
  rcases List.mem_cons.mp hq with rfl | hq
  ·exact .tail _ (.head _)
  ·rcases List.mem_cons.mp hq with rfl | hq
   ·exact .tail _ (.tail _ (.head _))
   ·rcases List.mem_cons.mp hq with rfl | hq
    ·exact .tail _ (.tail _ (.tail _ (.head _)))
    ·rcases List.mem_cons.mp hq with rfl | hq
     ·exact .head _
     ·exact .tail _ (.tail _ (.tail _ (.tail _ hq)))) ⟨⟨Ne.symm o1.1, Ne.symm o1.2.1, Ne.symm o1.2.2.1⟩, off⟩ hS r
end
theorem vals_size {l : List (Str × Tok)} {x y : Str} (e : List.map (fun x => x.1) l = Txt.split x y) (z : x.length ≤ 1000) : (strValues l).toArray.size ≤ sizeLine := by
 have := len_le_of_split e
 rw [sizeLine_eq, List.size_toArray]
 show (l.map _).length ≤ _
 rw [List.length_map]; lia
theorem le_sum_of_mem {l : List Nat} {n : Nat} (h : n ∈ l) : n ≤ l.sum := by
 induction l with
 | nil => cases h
 | cons a l ih =>
  rw [List.sum_cons]
  rcases List.mem_cons.mp h with rfl | h
  ·lia
  ·have := ih h; lia
theorem split_piece {x y c : Str} (hy : 1 ≤ y.length) (h : c ∈ Txt.split x y) : c.length ≤ x.length := by
 have w := split_weight x y hy
 have p := List.length_pos_of_mem h
 have := le_sum_of_mem (List.mem_map_of_mem (f := fun z : Str => z.length) h)
 lia
theorem vals_item {l : List (Str × Tok)} {i : Nat} {v : Value} {x : Str} (e : List.map (fun x => x.1) l = Txt.split x (Str.ofString "/")) (z : x.length ≤ 1000) (h : (strValues l).toArray[i]? = some v) : ∃ c t, v = .str c t ∧ c.length ≤ 1000 := by
 rw [List.getElem?_toArray] at h
 obtain ⟨q, hq, rfl⟩ := List.mem_map.mp (List.mem_of_getElem? h)
 refine ⟨_, _, rfl, Nat.le_trans (split_piece (by decide +kernel) (e ▸ List.mem_map_of_mem (f := fun x : Str × Tok => x.1) hq)) z⟩
noncomputable section
namespace ccommon_
noncomputable def zP (w : World) (A : Around) (E : Value → Shared → Prop) (s : Shared) (Q : Value → Shared → Prop) (a : Addr) (k : Nat) (p q : Str) (tp tq : Tok) : Prop := ∀ (C : Cx w s.heap) (R : Room A 8) (la : s.heap.get? a = some (listOf #[.str p tp, .str q tq] k)) (zp : p.length ≤ 1000) (zq : q.length ≤ 1000) (sp : Txt.startswith p (Str.ofString "/") = true) (sq : Txt.startswith q (Str.ofString "/") = true) (hQ : ∀ h' tk t, Keeps s.heap h' → Q (.str (Str.ofString "/" ++ Txt.join (Str.ofString "/") (cpre (nms p) (nms q))) t) {s with heap := h', toks := tk}), wpAny (model pw w) A (call (.ref 352) [.ref a]) Q E s
noncomputable def zT (x : YY) : Prop := zP (x 1 0) { depth := (x 0 1), frames := (x 10 2), guards := (x 11 3), units := (x 0 4) } (x 9 5) (x 5 6) (x 9 7) (x 0 8) (x 0 9) (x 12 10) (x 12 11) (x 0 12) (x 0 13)
noncomputable def zC := pickY zT
@[irreducible] def w : World := zC 1 0
def d0 : Nat := zC 0 1
@[irreducible] def fr0 : Option (List Env) := zC 10 2
@[irreducible] def gd0 : Option (List Code) := zC 11 3
def u0 : Nat := zC 0 4
@[irreducible] def E : Value → Shared → Prop := zC 9 5
@[irreducible] def s : Shared := zC 5 6
@[irreducible] def Q : Value → Shared → Prop := zC 9 7
def a : Addr := zC 0 8
def k : Nat := zC 0 9
def p : Str := zC 12 10
def q : Str := zC 12 11
def tp : Tok := zC 0 12
def tq : Tok := zC 0 13
theorem zA (h : zP w { depth := d0, frames := fr0, guards := gd0, units := u0 } E s Q a k p q tp tq) : ∀ y, zT y := by with_unfolding_all exact pickY_spec zT h
namespace zB
noncomputable def zQ : {zz : (Str → Option Value) → (Str → Option Value) → Addr → Nat → Obj → Nat → Obj → Heap → (List (Str × Tok)) → Addr → Obj → Addr → Obj → Addr → Heap → (List (Str × Tok)) → Heap → Addr → Nat → Heap → Addr → Heap → Nat → Heap → Prop // (∀ mg mb D zy13 zy15 zy19 zy21 zy31 zy43 zy54 zy55 zy56 zy57 zy58 zy60 zy73 zy74 zy81 zy83 g2 D3 h3 tk3 h4, zz mg mb D zy13 zy15 zy19 zy21 zy31 zy43 zy54 zy55 zy56 zy57 zy58 zy60 zy73 zy74 zy81 zy83 g2 D3 h3 tk3 h4) → zP w { depth := d0, frames := fr0, guards := gd0, units := u0 } E s Q a k p q tp tq} := ⟨_, by
 intro zh
 intro C R la zp zq sp sq hQ
 w_on
 w_strict (
  (rename Room _ _ => R0); refine wpAny_call ?_
  refine' enterC [(Str.ofString "paths", .ref a)] ?k1 ?k6 ?k7 ?k8 ?k9 ?kB ?kD ?_ ?c2 ?c3 ?c4
  ( k_dflt ((case k1 => assumption); (case k6 => k_is); (case k7 => k_is); (case k8 => assumption); (case k9 => walk_at "my binds"); (case kB => exact rfl); (case kD => decide +kernel); (case c2 => exact rfl); (case c3 => exact rfl); (case c4 => exact rfl); intro h' tk' cells' F' N' Y' R'; k_cells Y'; (try dsimp only at F'); (try dsimp only at N'); (try dsimp only)); have X := Cx.X (by assumption); obtain ⟨mg, mb, T⟩ := Cx.T (by assumption))
  walk_at "my steps"
  rename Fr _ _ _ _ => F
  rename News _ _ _ _ => N
  rename Room _ _ => RR
  have la' := F.keep _ _ la
  refine call_map (items := #[.str p tp, .str q tq]) ⟨_, la', rfl, _, rfl⟩ ?_
  walk_at "my steps"
  refine' call_tuple_map (n := 2) (R := fun x v _ => v = x) (Room.le RR (by decide)) stable_eq (by show 2 ≤ 10000; decide) (mapOk_new (items := #[.str p tp, .str q tq]) ⟨_, la', rfl, _, rfl⟩) (fspath_map (C.keeps F.keep)) ?cc
  case cc =>
   intro h1 tk1 D vs hD h0 K hl hv
   have e := sizes_two hl hv
   subst e
   replace N := news_add (news_keeps N K) hD (none_base F h0) (ne_frame (h := h1) F h0)
   replace F := fr_keeps F K
   clear K la' hD h0 hl hv
   walk_at "my steps"
   refine try_plain ?_
   walk_at "my steps"
   refine' Assign_ListComp_Tup (L := s.heap.objs.size) (h₀ := s.heap) ?a0 ?a1 ?a2 ?a3 ?a4 ?a5 ?a6 ?a7 ?a8 ?a9 ?b1 ?b2
   case a0 => walk_at "a"
   case a1 => rfl
   case a2 => with_unfolding_all rfl
   case a3 => with_unfolding_all rfl
   case a4 => decide
   case a5 => rfl
   case a6 => decide
   case a7 => rfl
   case a8 => rfl
   case a9 => rfl
   case b2 => intro _; rfl
   case b1 =>
   walk_at "my steps"
   refine' TupSrc.intro ?hh ?F ?N ?hm ?hz ?R
   case hh => exact rfl
   case F => walk_at "a"
   case N => walk_at "a"
   case hm => k_mem
   case hz => exact Nat.le_of_ble_eq_true rfl
   case R =>
   intro g
   lcg_lit
   walk_at "my steps"
   (((rename News _ _ _ _ => N2); revert N2; walk_at "my sizes"; intro N2; (try dsimp only at N2); (try simp only [LCg.Off3, and_true, List.cons_append, List.nil_append] at *)); lcg_end)
   walk_at "my steps"
   (((rename News _ _ _ _ => N2); revert N2; walk_at "my sizes"; intro N2; (try dsimp only at N2); (try simp only [LCg.Off3, and_true, List.cons_append, List.nil_append] at *)); lcg_end)
   walk_at "my steps"
   refine try_plain ?_
   walk_at "my steps"
   refine' SetComp_Tup (L := s.heap.objs.size) (h₀ := s.heap) ?a0 ?a2 ?a3 ?a4 ?a5 ?a6 ?b1 ?b2
   case a0 => walk_at "a"
   case a2 => with_unfolding_all rfl
   case a3 => decide
   case a4 => rfl
   case a5 => decide
   case a6 => rfl
   case b2 => intro _; rfl
   case b1 =>
   walk_at "my steps"
   refine' SetSrc.intro ?hh ?F ?N ?hm ?hz ?R
   case hh => exact rfl
   case F => walk_at "a"
   case N => walk_at "a"
   case hm => k_mem
   case hz => exact Nat.le_of_ble_eq_true rfl
   case R =>
   intro g2
   refine RestS.succ (k := 1) ?_
   (intro v' I' oI' C' oC' D' m' h' tk' E' hv' hC' hx' F' N' off' ne'; (first | lcg_open hv' | (obtain ⟨t9', hv9'⟩ := hv'; subst hv9')); (try simp only [LCg.Off3, and_true] at off'))
   walk_at "my steps"
   refine' comp_end_same (by walk_at "a") (by walk_at "a") ?w1 ?w2 ?w3
   case w1 => simp only [LCg.Off3, and_true]; walk_at "a"
   case w2 => exact ⟨_, by k_mem⟩
   case w3 =>
   refine ⟨congrArg _ sp, ?_⟩
   refine RestS.succ (k := 0) ?_
   (intro v' I' oI' C' oC' D' m' h' tk' E' hv' hC' hx' F' N' off' ne'; (first | lcg_open hv' | (obtain ⟨t9', hv9'⟩ := hv'; subst hv9')); (try simp only [LCg.Off3, and_true] at off'))
   walk_at "my steps"
   refine' comp_end_same (by walk_at "a") (by walk_at "a") ?w1 ?w2 ?w3
   case w1 => simp only [LCg.Off3, and_true]; walk_at "a"
   case w2 => exact ⟨_, by k_mem⟩
   case w3 =>
   refine ⟨congrArg _ sq, ?_⟩
   refine RestS.zero ?_
   intro D3 h3 tk3 F3 N3 o3
   walk_at "my steps"
   refine' assign_set1 (n := 1) (h₀ := s.heap) (L := s.heap.objs.size) ?q1 ?q2 ?q3 ?q4 ?q5
   case q1 => exact rfl
   case q2 => walk_at "a"
   case q3 => walk_at "a"
   case q4 => k_mem
   case q5 =>
   clear F3 N3
   intro h4 F4 N4
   rename_i zy1 zy2 zy3 zy4 zy5 zy6 zy7 zy8 zy9 zy10 zy11 zy12 zy13 zy14 zy15 zy16 zy17 zy18 zy19 zy20 zy21 zy22 zy23 zy24 zy25 zy26 zy27 zy28 zy29 zy30 zy31 zy32 zy33 zy34 zy35 zy36 zy37 zy38 zy39 zy40 zy41 zy42 zy43 zy44 zy45 zy46 zy47 zy48 zy49 zy50 zy51 zy52 zy53 zy54 zy55 zy56 zy57 zy58 zy59 zy60 zy61 zy62 zy63 zy64 zy65 zy66 zy67 zy68 zy69 zy70 zy71 zy72 zy73 zy74 zy75 zy76 zy77 zy78 zy79 zy80 zy81 zy82 zy83 zy84 zy85 zy86 zy87 zy88 zy89 zy90 zy91 zy92 zy93 zy94 zy95 zy96 zy97 zy98 zy99 zy100 zy101 zy102 zy103 zy104 zy105 zy106
   clear ek qk zy106 off' hx' hv' ne' N' F' hC' E' tk' h' m' D' oC' C' oI' I' zy105 zy104 zy103 zy102 zy101 zy100 zy99 zy98 zy97 zy96 zy95 zy94 zy93 zy92 zy91 zy90 zy89 zy88 zy87 zy86 zy85 zy84 zy82 zlz zy80 zy79 zy78 zy77 zy75 zy72 zy71 zy70 zy69 zy68 zy67 zy66 zy65 zy64 zy63 zy62 zy61 zy59 zy53 zy52 zy51 zy50 zy49 zy48 zy47 zy45 zy44 zy42 zy41 zy40 zy39 zy38 zy37 zy36 zy35 zy34 zy33 zy32 zy30 zy29 zy28 zy27 zy26 zy25 g tk zy23 zy22 zy20 zy17 zy16 zy14 zy12 zy11 zy10 zy9 zy8 tk1 h1 zy7 zy6 zy5 zy4 zy3 zy2 zy1 sq sp la R0 C
   revert zp zq hQ RR X T zy18 zy24 zy46 zy76 N2 o3 F4 N4
   revert mg mb D zy13 zy15 zy19 zy21 zy31 zy43 zy54 zy55 zy56 zy57 zy58 zy60 zy73 zy74 zy81 zy83 g2 D3 h3 tk3 h4
   exact @zh)
 ⟩
noncomputable def zT (x : YY) : Prop := zQ.1 (x 6 0) (x 6 1) (x 0 2) (x 0 3) (x 3 4) (x 0 5) (x 3 6) (x 2 7) (x 30 8) (x 0 9) (x 3 10) (x 0 11) (x 3 12) (x 0 13) (x 2 14) (x 30 15) (x 2 16) (x 0 17) (x 0 18) (x 2 19) (x 0 20) (x 2 21) (x 0 22) (x 2 23)
noncomputable def zC := pickY zT
def mg : Str → Option Value := zC 6 0
def mb : Str → Option Value := zC 6 1
def D : Addr := zC 0 2
def zy13 : Nat := zC 0 3
@[irreducible] def zy15 : Obj := zC 3 4
def zy19 : Nat := zC 0 5
@[irreducible] def zy21 : Obj := zC 3 6
@[irreducible] def zy31 : Heap := zC 2 7
@[irreducible] def zy43 : List (Str × Tok) := zC 30 8
def zy54 : Addr := zC 0 9
@[irreducible] def zy55 : Obj := zC 3 10
def zy56 : Addr := zC 0 11
@[irreducible] def zy57 : Obj := zC 3 12
def zy58 : Addr := zC 0 13
@[irreducible] def zy60 : Heap := zC 2 14
@[irreducible] def zy73 : List (Str × Tok) := zC 30 15
@[irreducible] def zy74 : Heap := zC 2 16
def zy81 : Addr := zC 0 17
def zy83 : Nat := zC 0 18
@[irreducible] def g2 : Heap := zC 2 19
def D3 : Addr := zC 0 20
@[irreducible] def h3 : Heap := zC 2 21
def tk3 : Nat := zC 0 22
@[irreducible] def h4 : Heap := zC 2 23
theorem zA (h : zQ.1 mg mb D zy13 zy15 zy19 zy21 zy31 zy43 zy54 zy55 zy56 zy57 zy58 zy60 zy73 zy74 zy81 zy83 g2 D3 h3 tk3 h4) : ∀ y, zT y := by with_unfolding_all exact pickY_spec zT h
namespace zD
noncomputable def zQ : {zz : Addr → Addr → (List Value) → (List Str) → Addr → (List Value) → (List Str) → Heap → Nat → Obj → Tok → Prop // (∀ zy34 A1 u1 X1 A2 u2 X2 zy42 tk osep tsep, zz zy34 A1 u1 X1 A2 u2 X2 zy42 tk osep tsep) → zQ.1 mg mb D zy13 zy15 zy19 zy21 zy31 zy43 zy54 zy55 zy56 zy57 zy58 zy60 zy73 zy74 zy81 zy83 g2 D3 h3 tk3 h4} := ⟨_, by
 intro zh
 intro zp zq hQ RR X T _ _ _ _ N2 o3 F4 N4
 w_on
 w_strict (
  walk_at "my steps"
  refine' LCg.Assign_ListComp_U (L := s.heap.objs.size) (h₀ := s.heap) ?a0 ?a1 ?a2 ?a3 ?a4 ?a5 ?a6 ?a7 ?a8 ?a9 ?b1 ?b2
  case a0 => walk_at "a"
  case a1 => rfl
  case a2 => with_unfolding_all rfl
  case a3 => with_unfolding_all rfl
  case a4 => decide
  case a5 => rfl
  case a6 => decide
  case a7 => rfl
  case a8 => rfl
  case a9 => rfl
  case b2 => intro _; rfl
  case b1 =>
  walk_at "my steps"
  walk1
  (try dsimp only)
  walk_at "my steps"
  refine' LCt.ListComp_T (L := s.heap.objs.size) (h₀ := s.heap) ?u0 ?u1 ?u2 ?u3 ?u4 ?u5 ?u6 ?u7
  case u0 => walk_at "a"
  case u1 => with_unfolding_all rfl
  case u2 => decide
  case u3 => rfl
  case u4 => decide
  case u5 => rfl
  case u7 => intro _; rfl
  case u6 =>
  walk_at "my steps"
  rename List.map _ _ = Txt.split p _ => e1
  refine' LCt.CompSrcT.ledger ?hh ?F ?N ?hm ?hz ?R
  case hh => exact rfl
  case F => walk_at "a"
  case N => walk_at "a"
  case hm => k_mem
  case hz => exact vals_size e1 zp
  case R =>
  intro g6
  refine' filterT keepV rfl ?f1 ?f2 ?f3 ?f4 ?f5
  case f1 => rfl
  case f2 => decide
  case f3 => exact .inr ⟨_, by k_mem, rfl, _, rfl⟩
  case f4 =>
   intro i v I oI Cc oC Dd ys m₂ h tk E' hv hC hm F N off ne
   obtain ⟨x, tx, rfl, zx⟩ := vals_item e1 zp hv
   walk_at "my steps"
   all_goals (
    refine' test_end (by walk_at "a") (by walk_at "a") ?tp ?ts
    case ts => intro q hq; exact hq
    case tp => first | exact keep_nilZ (by walk_at "a") | exact keep_dot (by walk_at "a") | exact keep_yes (by walk_at "a") (by walk_at "a"))
  case f5 =>
  intro D6 h6 tk6 F6 N6 o6
  obtain ⟨ys1, hy1, sy1⟩ : ∃ ys, List.filter keepV (strValues _).toArray.toList = ys ∧ StrsAre ys (nms p) := ⟨_, rfl, filter_vals e1⟩
  rw [hy1] at N6
  refine' comp_end_made F6 N6 o6 ?v1 ?v2 ?v3
  case v1 => simp only [LCg.Off3, and_true]; walk_at "a"
  case v2 => exact .inr ⟨_, by k_mem, rfl, _, rfl⟩
  case v3 =>
  walk_at "my steps"
  refine' LCt.ListComp_T (L := s.heap.objs.size) (h₀ := s.heap) ?u0 ?u1 ?u2 ?u3 ?u4 ?u5 ?u6 ?u7
  case u0 => walk_at "a"
  case u1 => with_unfolding_all rfl
  case u2 => decide
  case u3 => rfl
  case u4 => decide
  case u5 => rfl
  case u7 => intro _; rfl
  case u6 =>
  walk_at "my steps"
  rename List.map _ _ = Txt.split q _ => e2
  refine' LCt.CompSrcT.ledger ?hh ?F ?N ?hm ?hz ?R
  case hh => exact rfl
  case F => walk_at "a"
  case N => walk_at "a"
  case hm => k_mem
  case hz => exact vals_size e2 zq
  case R =>
  intro g7
  refine' filterT keepV rfl ?f1 ?f2 ?f3 ?f4 ?f5
  case f1 => rfl
  case f2 => decide
  case f3 => exact .inr ⟨_, by k_mem, rfl, _, rfl⟩
  case f4 =>
   intro i v I oI Cc oC Dd ys m₂ h tk E' hv hC hm F N off ne
   obtain ⟨x, tx, rfl, zx⟩ := vals_item e2 zq hv
   walk_at "my steps"
   all_goals (
    refine' test_end (by walk_at "a") (by walk_at "a") ?tp ?ts
    case ts => intro q hq; exact hq
    case tp => first | exact keep_nilZ (by walk_at "a") | exact keep_dot (by walk_at "a") | exact keep_yes (by walk_at "a") (by walk_at "a"))
  case f5 =>
  intro D7 h7 tk7 F7 N7 o7
  obtain ⟨ys2, hy2, sy2⟩ : ∃ ys, List.filter keepV (strValues _).toArray.toList = ys ∧ StrsAre ys (nms q) := ⟨_, rfl, filter_vals e2⟩
  rw [hy2] at N7
  refine' comp_end_made F7 N7 o7 ?v1 ?v2 ?v3
  case v1 => simp only [LCg.Off3, and_true]; walk_at "a"
  case v2 => exact .inr ⟨_, by k_mem, rfl, _, rfl⟩
  case v3 =>
  walk_at "my steps"
  rename Fr _ _ _ _ => F8
  rename News _ _ _ _ => N8
  refine' min_led rfl RR F8 N8 ?x1 ?x2 ?x3 sy1 sy2 ?x4
  case x1 => k_mem
  case x2 => k_mem
  case x3 => first | k_mem | exact .head _
  case x4 =>
  clear F8 N8
  intro h8 tk8 A1 u1 X1 F8 N8 su1 e8
  walk_at "my steps"
  rename Fr _ _ _ _ => F8
  rename News _ _ _ _ => N8
  refine' max_led rfl RR F8 N8 ?x1 ?x2 ?x3 sy1 sy2 ?x4
  case x1 => k_mem
  case x2 => k_mem
  case x3 => first | k_mem | exact .tail _ (.head _)
  case x4 =>
  clear F8 N8
  intro h9 tk9 A2 u2 X2 F9 N9 su2 e9
  walk_at "my steps"
  rename News _ _ _ _ => N9
  obtain ⟨osep, tsep, dsep, N10⟩ : ∃ o t, o.data = Data.cell (some (Value.str (Str.ofString "/") t)) ∧ News s.heap s.heap.objs.size _ [(A2, LCg.lst u2), (A1, LCg.lst u1), (s.heap.objs.size + 1, o)] := ⟨_, _, by walk_at "a", news_sub N9 (by walk_at "my sub")⟩
  clear N9
  rename_i zy1 zy2 zy3 zy4 zy5 zy6 zy7 zy8 zy9 zy10 zy11 zy12 zy13 zy14 zy15 zy16 zy17 zy18 zy19 zy20 zy21 zy22 zy23 zy24 zy25 zy26 zy27 zy28 zy29 zy30 zy31 zy32 zy33 zy34 zy35 zy36 zy37 zy38 zy39 zy40 zy41 zy42 zy43
  clear zy41 zy40 tk9 h9 zy39 zy38 tk8 h8 zy37 zy36 zy35 sy2 hy2 ys2 o7 tk7 h7 D7 g7 zy33 zy32 zy31 zy30 zy29 zy28 zy27 zy26 zy25 zy24 zy23 zy22 zy21 zy20 sy1 hy1 ys1 o6 tk6 h6 D6 g6 zy19 zy18 zy17 zy16 zy15 zy14 zy13 zy12 zy11 zy10 zy9 zy8 zy7 zy6 zy5 zy4 zy3 e2 e1 zy2 zy1 RR
  revert zp zq hQ X T o3 su1 e8 su2 e9 zy43 dsep N10
  revert zy34 A1 u1 X1 A2 u2 X2 zy42 tk osep tsep
  exact @zh)
 ⟩
noncomputable def zT (x : YY) : Prop := zQ.1 (x 0 0) (x 0 1) (x 4 2) (x 13 3) (x 0 4) (x 4 5) (x 13 6) (x 2 7) (x 0 8) (x 3 9) (x 0 10)
noncomputable def zC := pickY zT
def zy34 : Addr := zC 0 0
def A1 : Addr := zC 0 1
@[irreducible] def u1 : List Value := zC 4 2
@[irreducible] def X1 : List Str := zC 13 3
def A2 : Addr := zC 0 4
@[irreducible] def u2 : List Value := zC 4 5
@[irreducible] def X2 : List Str := zC 13 6
@[irreducible] def zy42 : Heap := zC 2 7
def tk : Nat := zC 0 8
@[irreducible] def osep : Obj := zC 3 9
def tsep : Tok := zC 0 10
theorem zA (h : zQ.1 zy34 A1 u1 X1 A2 u2 X2 zy42 tk osep tsep) : ∀ y, zT y := by with_unfolding_all exact pickY_spec zT h
theorem zK : zQ.1 zy34 A1 u1 X1 A2 u2 X2 zy42 tk osep tsep := by
 intro zp zq hQ X T o3 su1 e8 su2 e9 _ dsep N10
 w_on
 w_strict (
  refine' cut_exec (P := CmnEnd s.heap s.heap.objs.size (s.heap.objs.size + 1) osep (cpre (nms p) (nms q)) s) ?fr1 ?fr2
  case fr1 =>
   refine wpAny_For ?_ (by intro _; rfl)
   walk_at "my steps"
   rename Fr _ _ _ _ => F10
   refine' for_enum (L := s.heap.objs.size) (its := u1.toArray) (n := u1.length) rfl rfl (N10 (A1, LCg.lst u1) (by k_mem)).1 (fun k m news => news = [(A2, LCg.lst u2), (A1, LCg.lst u1), (s.heap.objs.size + 1, osep)] ∧ m (Str.ofString "common") = some (.ref A1) ∧ m (Str.ofString "s1") = some (.ref A1) ∧ m (Str.ofString "s2") = some (.ref A2) ∧ m (Str.ofString "isabs") = some (.bool true) ∧ X1.take k = X2.take k) F10 N10 ?je ?ke ?te ?de
   case je => exact ⟨rfl, rfl, rfl, rfl, rfl, rfl⟩
   case ke => exact .inr fun _ _ _ j => j.1 ▸ (.tail _ (.head _))
   case te =>
    rintro i x t oe ot e it m news h tk hx ⟨rfl, m1, m2, m3, m4, ht⟩ hne hni hei F N
    obtain ⟨c, tc, rfl, hc⟩ := strs_item su1 (by simpa using hx)
    have g := lex_pick e8 e9
    have hk : i < X1.length := (List.getElem?_eq_some_iff.mp hc).1
    have hk2 := g.1 i hk ht
    obtain ⟨d, hd⟩ : ∃ d, X2[i]? = some d := ⟨_, List.getElem?_eq_getElem hk2⟩
    obtain ⟨td, hd2⟩ := strs_get su2 hd
    have zi : i < 1002 := Nat.lt_of_lt_of_le hk (by rw [e8]; split <;> first | exact nms_len zp | exact nms_len zq)
    clear hk hk2 hx
    iterate 12 (first | (k_unfold; (try dsimp only)) | ((fail_if_success walk_at "my stop"); first | (walk1; (try dsimp only)) | (dsimp only; (fail_if_success walk_at "my stop"); walk1; (try dsimp only))))
    refine' item_led ?N ?m ?x ?z ?h ?hs ?hg
    case N => walk_at "a"
    case m => k_mem
    case x => walk_at "a"
    case z => lia
    case hs => with_unfolding_all rfl
    case hg => (intro _; with_unfolding_all rfl)
    walk_at "my steps"
    ·have hle : i < u1.length := by rw [strs_len su1]; exact (List.getElem?_eq_some_iff.mp hc).1
     refine' slice_led (v := u1) (i := i) ?F2 ?N2 ?l2 (Nat.le_of_lt hle) ?z2 ?s2 ?t2 ?_
     case F2 => walk_at "a"
     case N2 => walk_at "a"
     case l2 => k_mem
     case s2 => with_unfolding_all rfl
     case t2 => (intro _; with_unfolding_all rfl)
     case z2 => exact Nat.le_trans (by rw [strs_len su1, e8]; split <;> first | exact nms_len zp | exact nms_len zq) (by decide : 1002 ≤ 10000)
     intro Ds hs Fs Ns ls
     walk_at "my steps"
     refine' cmn_end (by walk_at "a") (by walk_at "a") ?o1 ?o3 ?o4 ?o2
     case o1 => walk_at "my sub"
     case o3 => walk_at "my look"
     case o4 => walk_at "my look"
     case o2 =>
      have gg : (c != d) = true := by walk_at "a"
      rw [← g.2, cpre_stop ht hc hd (by simpa using gg)]
      exact strs_take su1 i
    ·refine' fnext2 (by walk_at "a") (by walk_at "a") ?j1 ?j2 hne hni
     case j2 => walk_at "my sub"
     case j1 =>
      refine' ⟨rfl, ?l1, ?l2, ?l3, ?l4, ?l5⟩
      case l1 => walk_at "my look"
      case l2 => walk_at "my look"
      case l3 => walk_at "my look"
      case l4 => walk_at "my look"
      case l5 =>
       have gg : (c != d) = false := by walk_at "a"
       have gg2 : c = d := by simpa using gg
       exact take_next ht hc (gg2 ▸ hd)
   case de =>
    rintro m news h tk ⟨rfl, m1, m2, m3, m4, ht⟩ F N
    refine' cmn_end F N ?s1 m1 m4 ?s2
    case s1 => walk_at "my sub"
    case s2 =>
     have g := lex_pick e8 e9
     have e : u1.toArray.size = X1.length := by rw [List.size_toArray, strs_len su1]
     rw [e] at ht
     rw [← g.2, cpre_all ht]; exact su1
  case fr2 =>
  rintro f s' ⟨rfl, hz, tkz, mz, Dz, vz, kz, rfl, Fz, Nz, mc, mi, sv⟩
  walk_at "my steps"
  rename News _ _ _ _ => Nj
  refine' join_listW (items := vz.toArray) ⟨_, (Nj (Dz, listOf vz.toArray kz) ?j0).1, rfl, _, rfl⟩ sv ?j1 ?j2 ?j3
  case j0 => k_mem
  case j1 => decide +kernel
  case j2 => exact Nat.le_trans (wgt_common zp) (by decide)
  case j3 =>
  intro tj kj
  have zj : (Txt.join (Str.ofString "/") (cpre (nms p) (nms q))).length ≤ 3000 := cmn_len zp
  walk_at "my steps"
  exact hQ _ _ _ (Fr.keep (by walk_at "a")))
end zD
theorem zK : zQ.1 mg mb D zy13 zy15 zy19 zy21 zy31 zy43 zy54 zy55 zy56 zy57 zy58 zy60 zy73 zy74 zy81 zy83 g2 D3 h3 tk3 h4 := zD.zQ.2 fun zy34 A1 u1 X1 A2 u2 X2 zy42 tk osep tsep => zD.zA zD.zK (putY [⟨0, zy34⟩, ⟨0, A1⟩, ⟨4, u1⟩, ⟨13, X1⟩, ⟨0, A2⟩, ⟨4, u2⟩, ⟨13, X2⟩, ⟨2, zy42⟩, ⟨0, tk⟩, ⟨3, osep⟩, ⟨0, tsep⟩])
end zB
theorem zK : zP w { depth := d0, frames := fr0, guards := gd0, units := u0 } E s Q a k p q tp tq := zB.zQ.2 fun mg mb D zy13 zy15 zy19 zy21 zy31 zy43 zy54 zy55 zy56 zy57 zy58 zy60 zy73 zy74 zy81 zy83 g2 D3 h3 tk3 h4 => zB.zA zB.zK (putY [⟨6, mg⟩, ⟨6, mb⟩, ⟨0, D⟩, ⟨0, zy13⟩, ⟨3, zy15⟩, ⟨0, zy19⟩, ⟨3, zy21⟩, ⟨2, zy31⟩, ⟨30, zy43⟩, ⟨0, zy54⟩, ⟨3, zy55⟩, ⟨0, zy56⟩, ⟨3, zy57⟩, ⟨0, zy58⟩, ⟨2, zy60⟩, ⟨30, zy73⟩, ⟨2, zy74⟩, ⟨0, zy81⟩, ⟨0, zy83⟩, ⟨2, g2⟩, ⟨0, D3⟩, ⟨2, h3⟩, ⟨0, tk3⟩, ⟨2, h4⟩])
end ccommon_
end
theorem common_ {w : World} {A : Around} {E : Value → Shared → Prop} {s : Shared} {Q : Value → Shared → Prop} {a : Addr} {k : Nat} {p q : Str} {tp tq : Tok} : ccommon_.zP w A E s Q a k p q tp tq := by
 intro C R
 obtain ⟨hd0, d0, fr0, gd0, u0⟩ := A
 have hh0 := Room.handled R
 dsimp only at hh0
 subst hh0
 exact ccommon_.zA ccommon_.zK (putY [⟨1, w⟩, ⟨0, d0⟩, ⟨10, fr0⟩, ⟨11, gd0⟩, ⟨0, u0⟩, ⟨9, E⟩, ⟨5, s⟩, ⟨9, Q⟩, ⟨0, a⟩, ⟨0, k⟩, ⟨12, p⟩, ⟨12, q⟩, ⟨0, tp⟩, ⟨0, tq⟩]) C R
end
section
structure RowOk (r A : List Str) : Prop where
 len : r.length ≤ 10
 small : ∀ x ∈ r, x.length ≤ 10
 few : A.length ≤ 6
 nice : ∀ x ∈ A, isNice x
 text : ∀ i j : Nat, i < j → j ≤ A.length → Txt.startswith (textS r i j) (Str.ofString "/") = true ∧ (textS r i j).length ≤ 1000 ∧ nms (textS r i j) = (A.take j).drop i ∧ ∃ n, n ≤ 1000 ∧ Ups (textS r i j) ((A.take j).drop i).reverse n
noncomputable def fsz (A0 B0 : List Str) (ahi bhi i j : Nat) : Nat := (cpre ((A0.take ahi).drop i) ((B0.take bhi).drop j)).length
noncomputable def bsz (A0 B0 : List Str) (alo blo i j : Nat) : Nat := sameL ((A0.take (i + 1)).drop alo).reverse ((B0.take (j + 1)).drop blo).reverse
noncomputable def grid (e : Nat → Nat → List (Int × Int × Int)) (na nb : Nat) : List (Int × Int × Int) := (List.range na).flatMap fun i => (List.range nb).flatMap (e i)
noncomputable def gridP (e : Nat → Nat → List (Int × Int × Int)) (nb i j : Nat) : List (Int × Int × Int) := grid e i nb ++ (List.range j).flatMap (e i)
theorem gridP_zero (e : Nat → Nat → List (Int × Int × Int)) (nb i : Nat) : gridP e nb i 0 = grid e i nb := by simp [gridP]
theorem gridP_succ (e : Nat → Nat → List (Int × Int × Int)) (nb i j : Nat) : gridP e nb i (j + 1) = gridP e nb i j ++ e i j := by
 unfold gridP; rw [List.range_succ, List.flatMap_append, List.append_assoc]; simp
theorem gridP_full (e : Nat → Nat → List (Int × Int × Int)) (nb i : Nat) : gridP e nb i nb = grid e (i + 1) nb := by
 unfold gridP grid; rw [List.range_succ, List.flatMap_append]; simp
noncomputable def eF (A0 B0 : List Str) (alo ahi blo bhi : Nat) (i j : Nat) : List (Int × Int × Int) := [(-((fsz A0 B0 ahi bhi (alo + i) (blo + j) : Nat) : Int), (alo : Int) + (i : Int), (blo : Int) + (j : Int))]
noncomputable def eB (A0 B0 : List Str) (alo ahi blo bhi : Nat) (i j : Nat) : List (Int × Int × Int) :=
 if 0 < bsz A0 B0 alo blo (alo + i) (blo + j) then [(-((bsz A0 B0 alo blo (alo + i) (blo + j) : Nat) : Int), (alo : Int) + (i : Int) - ((bsz A0 B0 alo blo (alo + i) (blo + j) : Nat) : Int) + 1, (blo : Int) + (j : Int) - ((bsz A0 B0 alo blo (alo + i) (blo + j) : Nat) : Int) + 1)] else []
theorem IsLs.open {led : List (Addr × Obj)} {v : Value} {xs : List Str} (h : IsLs led v xs) : ∃ a vs n, v = .ref a ∧ (a, listOf vs.toArray n) ∈ led ∧ StrsAre vs xs := by obtain ⟨a, its, n, e, hm, sa⟩ := h; exact ⟨a, its.toList, n, e, by rw [Array.toArray_toList]; exact hm, sa⟩
section
variable {prog : Program} {w : World} {A : Around} {E : Value → Shared → Prop} {s : Shared} {h₀ : Heap} {L : Addr} {news : List (Addr × Obj)}
theorem item_ledI {value slice : Expr} {l : Addr} {v : List Value} {k : Int} {i : Nat} {x : Value} {u : Tok} {Q : Value → Shared → Prop} (N : News h₀ L s.heap news) (hm : (l, PyProof.Rows.LCg.lst v) ∈ news) (hk : k = (i : Int)) (hx : v[i]? = some x) (hz : i < 100000) (h : Q x s)
  (hs : subscripted slice false (.ref l) (.int k u) = operate [.ref l, .int k u] (getItem (.ref l) (.int k u)) := by with_unfolding_all rfl) (hg : ∀ r, letTemporaryGo value (.ref l) r = pure () := by intro _; with_unfolding_all rfl) :
  wpAny (model prog w) A (subscriptTail value slice (.ref l) (.int k u)) Q E s := by
 subst hk
 exact item_led N hm hx hz h hs hg
end
theorem common2_ {w : World} {A : Around} {E : Value → Shared → Prop} {s : Shared} {Q : Value → Shared → Prop} {a : Addr} {k : Nat} {p q : Str} {tp tq : Tok} {X Y : List Str}
  (C : Cx w s.heap) (R : Room A 8) (la : s.heap.get? a = some (listOf #[.str p tp, .str q tq] k)) (gp : Txt.startswith p (Str.ofString "/") = true ∧ p.length ≤ 1000 ∧ nms p = X) (gq : Txt.startswith q (Str.ofString "/") = true ∧ q.length ≤ 1000 ∧ nms q = Y)
  (hQ : ∀ fr h' tk t, fr = Str.ofString "/" ++ Txt.join (Str.ofString "/") (cpre X Y) → fr.length ≤ 3001 → Keeps s.heap h' → Q (.str fr t) {s with heap := h', toks := tk}) :
  wpAny (model pw w) A (call (.ref 352) [.ref a]) Q E s := by
 refine common_ C R la gp.2.1 gq.2.1 gp.1 gq.1 fun h' tk t K => hQ _ h' tk t (by rw [gp.2.2, gq.2.2]) ?_ K
 have := cmn_len (p := p) (Y := nms q) gp.2.1
 rw [Str.length_append, slash_length]
 unfold nms at *
 lia
noncomputable def ne0V : Value → Bool
 | .str c _ => c != Str.ofString ""
 | _ => false
theorem filter_ne0 {l : List (Str × Tok)} {X : List Str} (e : List.map (fun x => x.1) l = X) : (((strValues l).toArray.toList.filter ne0V).length) = (X.filter fun c => c != Str.ofString "").length := by
 subst e
 show ((List.map _ l).filter ne0V).length = _
 rw [List.filter_map, List.filter_map, List.length_map, List.length_map]
 rfl
theorem vals_size3 {l : List (Str × Tok)} {x y : Str} (e : List.map (fun x => x.1) l = Txt.split x y) (z : x.length ≤ 3001) : (strValues l).toArray.size ≤ sizeLine := by
 have := len_le_of_split e
 rw [sizeLine_eq, List.size_toArray]
 show (l.map _).length ≤ _
 rw [List.length_map]; lia
theorem vals_item3 {l : List (Str × Tok)} {i : Nat} {v : Value} {x : Str} (e : List.map (fun x => x.1) l = Txt.split x (Str.ofString "/")) (z : x.length ≤ 3001) (h : (strValues l).toArray[i]? = some v) : ∃ c t, v = .str c t ∧ c.length ≤ 3001 := by
 rw [List.getElem?_toArray] at h
 obtain ⟨q, hq, rfl⟩ := List.mem_map.mp (List.mem_of_getElem? h)
 refine ⟨_, _, rfl, Nat.le_trans (split_piece (by decide +kernel) (e ▸ List.mem_map_of_mem (f := fun x : Str × Tok => x.1) hq)) z⟩
theorem cpre_sub {x : Str} : ∀ {X Y : List Str}, x ∈ cpre X Y → x ∈ X
 | [], _, h => by simp [cpre] at h
 | a :: X, [], h => by simp [cpre] at h
 | a :: X, b :: Y, h => by
  unfold cpre at h
  split at h
  ·rcases List.mem_cons.mp h with rfl | h
   ·exact .head _
   ·exact .tail _ (cpre_sub h)
  ·cases h
section
variable {prog : Program} {w : World} {A : Around} {E : Value → Shared → Prop} {s : Shared} {h₀ : Heap} {L : Addr} {news : List (Addr × Obj)}
theorem len_lst {l : Addr} {ys : List Value} {Q : Value → Shared → Prop} (N : News h₀ L s.heap news) (hm : (l, PyProof.Rows.LCg.lst ys) ∈ news) (z : ys.length ≤ 10000)
  (h : Q (.int ys.length (s.toks + 1)) { s with toks := s.toks + 1 + 1 }) : wpAny (model prog w) A (call (.builtin "len") [.ref l]) Q E s :=
 len_list (items := ys.toArray) ⟨_, N.get hm, rfl, _, rfl⟩ (by rw [List.size_toArray]; lia) (by rw [List.size_toArray]; exact h)
end
theorem cpre_len : ∀ X Y : List Str, (cpre X Y).length ≤ X.length
 | [], _ => by simp [cpre]
 | a :: X, [] => by simp [cpre]
 | a :: X, b :: Y => by
  have := cpre_len X Y
  unfold cpre
  split <;> simp <;> lia
end
section
noncomputable def isPiece (x : Str) : Prop := isNice x ∨ x = Str.ofString "" ∨ x = Str.ofString "."
theorem piece_free {x : Str} (h : isPiece x) : 47 ∉ x.cps.toList := by
 rcases h with h | rfl | rfl
 ·exact nice_free h
 ·decide +kernel
 ·decide +kernel
theorem piece_len {x : Str} (h : isPiece x) : x.length ≤ 2 := by
 rcases h with (rfl | rfl | rfl) | rfl | rfl <;> decide +kernel
theorem piece_nice {x : Str} (h : isPiece x) (n : isNm x = true) : isNice x := by
 rcases h with h | rfl | rfl
 ·exact h
 ·rw [isNm_empty] at n; cases n
 ·have : isNm (Str.ofString ".") = false := by decide +kernel
  rw [this] at n; cases n
noncomputable def piecesZ (i j : Nat) : Nat → List Str → List Str
 | _, [] => []
 | c, p :: r => if isNm p = true then (if i < c + 1 ∧ c + 1 ≤ j then [p] else []) ++ piecesZ i j (c + 1) r else (if i < c ∧ c ≤ j then [p] else []) ++ piecesZ i j c r
theorem pieces_sub {i j : Nat} {x : Str} : ∀ {c : Nat} {r : List Str}, x ∈ piecesZ i j c r → x ∈ r
 | _, [], h => by simp [piecesZ] at h
 | c, p :: r, h => by
  unfold piecesZ at h
  split at h
  ·rcases List.mem_append.mp h with h | h
   ·split at h
    ·rw [List.mem_singleton.mp h]; exact .head _
    ·cases h
   ·exact .tail _ (pieces_sub h)
  ·rcases List.mem_append.mp h with h | h
   ·split at h
    ·rw [List.mem_singleton.mp h]; exact .head _
    ·cases h
   ·exact .tail _ (pieces_sub h)
theorem cat_append (a b : List Str) : catP (a ++ b) = catP a ++ catP b := by
 apply str_ext
 rw [app_listZ, cat_list, cat_list, cat_list, List.flatMap_append]
theorem cat_one (p : Str) : catP [p] = Str.ofString "/" ++ p := by
 apply str_ext
 rw [app_listZ, cat_list, slash_list]; simp
theorem text_fold (i j : Nat) : ∀ (r : List Str) (c : Nat) (t : Str), (r.foldl (textStep i j) ((c : Int), t)).2 = t ++ catP (piecesZ i j c r)
 | [], c, t => by
  apply str_ext
  rw [app_listZ]; simp [piecesZ, catP, empty_list]
 | p :: r, c, t => by
  rw [List.foldl_cons]
  unfold piecesZ
  cases h : isNm p with
  | true =>
   have e : textStep i j ((c : Int), t) p = (((c + 1 : Nat) : Int), t ++ catP (if i < c + 1 ∧ c + 1 ≤ j then [p] else [])) := by
    simp only [textStep, h, if_true]
    by_cases q : i < c + 1 ∧ c + 1 ≤ j
    ·rw [if_pos (by lia), if_pos q, cat_one]; rfl
    ·rw [if_neg (by lia), if_neg q]
     have : t ++ catP [] = t := by apply str_ext; rw [app_listZ]; simp [catP, empty_list]
     rw [this]; rfl
   rw [e, text_fold i j r (c + 1), if_pos (show true = true from rfl), cat_append]
   apply str_ext; simp only [app_listZ, List.append_assoc]
  | false =>
   have e : textStep i j ((c : Int), t) p = ((c : Int), t ++ catP (if i < c ∧ c ≤ j then [p] else [])) := by
    simp only [textStep, h, Bool.false_eq_true, if_false]
    by_cases q : i < c ∧ c ≤ j
    ·rw [if_pos (by lia), if_pos q, cat_one]
    ·rw [if_neg (by lia), if_neg q]
     have : t ++ catP [] = t := by apply str_ext; rw [app_listZ]; simp [catP, empty_list]
     rw [this]
   rw [e, text_fold i j r c, if_neg (show ¬ (false = true) by decide), cat_append]
   apply str_ext; simp only [app_listZ, List.append_assoc]
theorem pieces_names (i j : Nat) : ∀ (r : List Str) (c : Nat), (piecesZ i j c r).filter isNm = ((r.filter isNm).take (j - c)).drop (i - c)
 | [], c => by simp [piecesZ]
 | p :: r, c => by
  unfold piecesZ
  cases h : isNm p with
  | true =>
   rw [if_pos (show true = true from rfl), List.filter_append, pieces_names i j r (c + 1), List.filter_cons, if_pos h]
   by_cases q1 : c + 1 ≤ j
   ·obtain ⟨d, hd⟩ : ∃ d, j - c = d + 1 := ⟨j - c - 1, (Nat.sub_add_cancel (Nat.sub_pos_of_lt q1)).symm⟩
    have hd2 : j - (c + 1) = d := nN hd
    rw [hd, hd2, List.take_succ_cons]
    by_cases q2 : i < c + 1
    ·rw [if_pos ⟨q2, q1⟩, Nat.sub_eq_zero_of_le (Nat.le_of_lt_succ q2), Nat.sub_eq_zero_of_le (Nat.le_of_lt q2)]; simp [h]
    ·obtain ⟨e, he⟩ : ∃ e, i - c = e + 1 := ⟨i - c - 1, (Nat.sub_add_cancel (Nat.sub_pos_of_lt (Nat.not_lt.mp q2))).symm⟩
     rw [if_neg (fun z => q2 z.1), he, nN he]; simp
   ·rw [if_neg (fun z => q1 z.2), Nat.sub_eq_zero_of_le (Nat.not_lt.mp q1), Nat.sub_eq_zero_of_le (Nat.le_succ_of_le (Nat.not_lt.mp q1))]; simp
  | false =>
   rw [if_neg (show ¬ (false = true) by decide), List.filter_append, pieces_names i j r c, List.filter_cons, if_neg (show ¬ (isNm p = true) by rw [h]; decide)]
   have : List.filter isNm (if i < c ∧ c ≤ j then [p] else []) = [] := by split <;> simp [h]
   rw [this]; rfl
theorem pieces_head (i j : Nat) (hij : i < j) : ∀ (r : List Str) (c : Nat), c ≤ i → i < c + (r.filter isNm).length → ∃ h t, piecesZ i j c r = h :: t ∧ isNm h = true
 | [], c, h1, h2 => by simp at h2; lia
 | p :: r, c, h1, h2 => by
  unfold piecesZ
  cases h : isNm p with
  | true =>
   rw [if_pos (show true = true from rfl)]
   by_cases q : i = c
   ·rw [if_pos (by lia)]
    exact ⟨p, _, rfl, h⟩
   ·rw [if_neg (by lia), List.nil_append]
    exact pieces_head i j hij r (c + 1) (by lia) (by rw [List.filter_cons, if_pos h] at h2; simp at h2; lia)
  | false =>
   rw [if_neg (show ¬ (false = true) by decide), if_neg (by lia), List.nil_append]
   exact pieces_head i j hij r c h1 (by rw [List.filter_cons, if_neg (by simp [h])] at h2; exact h2)
theorem cat_join {ps : List Str} (h : ps ≠ []) : catP ps = Str.join ⟨#[47]⟩ (Str.ofString "" :: ps) := by
 induction ps with
 | nil => exact absurd rfl h
 | cons p ps ih =>
  apply str_ext
  rw [join_cons, empty_list]
  cases ps with
  | nil =>
   show (Str.ofString "/" ++ p ++ Str.ofString "").cps.toList = 47 :: p.cps.toList
   rw [app_listZ, app_listZ, slash_list, empty_list]; simp
  | cons q ps =>
   have e := congrArg (fun s : Str => s.cps.toList) (ih (by simp))
   simp only [join_cons, empty_list] at e
   show (Str.ofString "/" ++ p ++ catP (q :: ps)).cps.toList = _
   rw [app_listZ, app_listZ, slash_list, e, join_cons]; simp
theorem cat_len : ∀ {ps : List Str}, (∀ p ∈ ps, p.length ≤ 2) → (catP ps).cps.toList.length ≤ 3 * ps.length
 | [], _ => by simp [catP, empty_list]
 | p :: r, h => by
  have := cat_len (ps := r) fun p hp => h p (.tail _ hp)
  have h2 := h p (.head _)
  rw [len_listZ] at h2
  show (Str.ofString "/" ++ p ++ catP r).cps.toList.length ≤ _
  rw [app_listZ, app_listZ, slash_list]
  simp only [List.length_append, List.length_cons, List.length_nil]; lia
theorem pieces_len (i j : Nat) : ∀ (r : List Str) (c : Nat), (piecesZ i j c r).length ≤ r.length
 | [], c => by simp [piecesZ]
 | p :: r, c => by
  have h1 := pieces_len i j r (c + 1)
  have h2 := pieces_len i j r c
  unfold piecesZ
  split <;> (rw [List.length_append]; split <;> simp <;> lia)
theorem rowOk {r : List Str} (hr : r.length ≤ 6) (hp : ∀ p ∈ r, isPiece p) : RowOk r (r.filter isNm) := by
 refine ⟨by lia, fun x hx => Nat.le_trans (piece_len (hp x hx)) (by decide), Nat.le_trans (List.length_filter_le _ _) hr, fun x hx => ?_, ?_⟩
 ·have := List.mem_filter.mp hx
  exact piece_nice (hp x this.1) this.2
 ·intro i j hij hj
  have hhd := pieces_head i j hij r 0 (Nat.zero_le _) (by lia)
  have hsub : ∀ x ∈ piecesZ i j 0 r, isPiece x := fun x hx => hp x (pieces_sub hx)
  have hnm := pieces_names i j r 0
  rw [Nat.sub_zero, Nat.sub_zero] at hnm
  have hlen := pieces_len i j r 0
  have hf := text_fold i j r 0 (Str.ofString "")
  have e0 : Str.ofString "" ++ catP (piecesZ i j 0 r) = catP (piecesZ i j 0 r) := by apply str_ext; rw [app_listZ, empty_list]; rfl
  rw [e0] at hf
  generalize piecesZ i j 0 r = ps at *
  obtain ⟨h, t, rfl, hi⟩ := hhd
  have hz := cat_len fun p hp => piece_len (hsub p hp)
  have hne : catP (h :: t) ≠ Str.ofString "" := fun q => by
   have := congrArg (fun s : Str => s.cps.toList.length) q
   simp only [catP, app_listZ, slash_list, empty_list, List.length_append] at this
   simp at this
  have et : textS r i j = catP (h :: t) := by
   unfold textS
   have hf' : (List.foldl (textStep (i : Int) (j : Int)) (0, Str.ofString "") r).2 = catP (h :: t) := hf
   rw [hf']; exact if_neg hne
  have hzz : (catP (h :: t)).length ≤ 1000 := by
   rw [len_listZ]; simp only [List.length_cons] at hz hlen; lia
  rw [et]
  refine ⟨?_, hzz, ?_, ?_⟩
  ·have h1 : (catP (h :: t)).cps.toList[0]? = some 47 := by
    show (Str.ofString "/" ++ h ++ catP t).cps.toList[0]? = _
    rw [app_listZ, app_listZ, slash_list]; rfl
   have := (StrLaws.subAt_one (catP (h :: t)) 47 0).mpr h1
   rw [slash_eq]
   unfold Txt.startswith
   rw [this.2, Bool.and_true]
   exact decide_eq_true this.1
  ·unfold nms
   rw [cat_join (by simp), slash_eq, split_join _ (by simp) (fun p hp => by
    rcases List.mem_cons.mp hp with rfl | hp
    ·exact empty_free
    ·exact piece_free (hsub p hp)), List.filter_cons, if_neg (by rw [isNm_empty]; decide), hnm]
  ·obtain ⟨k, hk, U⟩ := ups_cat _ (h :: t) (Nat.le_refl _) (fun p hp => piece_free (hsub p hp)) ⟨h, t, rfl, hi⟩ hzz
   rw [hnm] at U
   exact ⟨k, by simp only [List.length_cons] at *; lia, U⟩
end
section
noncomputable def IsBest (A B : List Str) (alo ahi blo bhi k i j : Nat) : Prop :=
 alo ≤ i ∧ i + k ≤ ahi ∧ blo ≤ j ∧ j + k ≤ bhi ∧ (A.drop i).take k = (B.drop j).take k ∧ (k = 0 → i = alo ∧ j = blo) ∧
 ∀ k' i' j', 0 < k' → alo ≤ i' → i' + k' ≤ ahi → blo ≤ j' → j' + k' ≤ bhi → (A.drop i').take k' = (B.drop j').take k' → lt3 (-(k' : Int), (i' : Int), (j' : Int)) (-(k : Int), (i : Int), (j : Int)) = false
theorem blk_iff {A B : List Str} {k i j : Nat} : (A.drop i).take k = (B.drop j).take k ↔ ∀ t, t < k → A[i + t]? = B[j + t]? := by
 constructor
 ·intro h t ht
  have := congrArg (fun l : List Str => l[t]?) h
  simpa [List.getElem?_take, ht, List.getElem?_drop] using this
 ·intro h
  apply List.ext_getElem?
  intro t
  by_cases ht : t < k
  ·simpa [List.getElem?_take, ht, List.getElem?_drop] using h t ht
  ·simp [List.getElem?_take, ht]
theorem cpre_iff : ∀ (X Y : List Str) (k : Nat), k ≤ (cpre X Y).length ↔ k ≤ X.length ∧ k ≤ Y.length ∧ ∀ t, t < k → X[t]? = Y[t]?
 | [], Y, k => by
  simp only [cpre, List.length_nil, Nat.le_zero_eq]
  constructor
  ·rintro rfl; exact ⟨rfl, Nat.zero_le _, fun t h => absurd h (Nat.not_lt_zero _)⟩
  ·exact fun h => h.1
 | x :: X, [], k => by
  simp only [cpre, List.length_nil, Nat.le_zero_eq]
  constructor
  ·rintro rfl; exact ⟨Nat.zero_le _, rfl, fun t h => absurd h (Nat.not_lt_zero _)⟩
  ·exact fun h => h.2.1
 | x :: X, y :: Y, 0 => by simp
 | x :: X, y :: Y, k + 1 => by
  unfold cpre
  by_cases e : x = y
  ·subst e
   rw [if_pos (by simp), List.length_cons, Nat.add_le_add_iff_right, cpre_iff X Y k]
   simp only [List.length_cons, Nat.add_le_add_iff_right]
   constructor
   ·rintro ⟨a, b, c⟩
    refine ⟨a, b, fun t ht => ?_⟩
    cases t with
    | zero => rfl
    | succ t => simpa using c t (by lia)
   ·rintro ⟨a, b, c⟩
    exact ⟨a, b, fun t ht => by simpa using c (t + 1) (by lia)⟩
  ·rw [if_neg (by simpa using e)]
   constructor
   ·intro h; simp at h
   ·rintro ⟨_, _, c⟩
    have := c 0 (by lia)
    simp at this; exact absurd this e
theorem same_cpre : ∀ X Y : List Str, sameL X Y = (cpre X Y).length
 | [], Y => by cases Y <;> rfl
 | x :: X, [] => rfl
 | x :: X, y :: Y => by
  unfold sameL cpre
  by_cases e : x = y
  ·rw [if_pos e, if_pos (by simpa using e), List.length_cons, same_cpre X Y]
  ·rw [if_neg e, if_neg (by simpa using e)]; rfl
theorem fsz_iff {A B : List Str} {ahi bhi i j k : Nat} (ha : ahi ≤ A.length) (hb : bhi ≤ B.length) (hi : i ≤ ahi) (hj : j ≤ bhi) : k ≤ fsz A B ahi bhi i j ↔ i + k ≤ ahi ∧ j + k ≤ bhi ∧ ∀ t, t < k → A[i + t]? = B[j + t]? := by
 unfold fsz
 rw [cpre_iff]
 simp only [List.length_drop, List.length_take, Nat.min_eq_left ha, Nat.min_eq_left hb]
 constructor
 ·rintro ⟨a, b, c⟩
  refine ⟨by lia, by lia, fun t ht => ?_⟩
  have := c t ht
  rwa [List.getElem?_drop, List.getElem?_drop, List.getElem?_take, List.getElem?_take, if_pos (by lia), if_pos (by lia)] at this
 ·rintro ⟨a, b, c⟩
  refine ⟨by lia, by lia, fun t ht => ?_⟩
  rw [List.getElem?_drop, List.getElem?_drop, List.getElem?_take, List.getElem?_take, if_pos (by lia), if_pos (by lia)]
  exact c t ht
theorem mH9 {a i t : Nat} (h : t < i + 1 - a) (h2 : a ≤ i) : a + (i + 1 - a - 1 - t) = i - t := by
 obtain ⟨c, rfl⟩ := Nat.exists_eq_add_of_le h2
 have h3 : t ≤ c := by rw [Nat.add_assoc, Nat.add_sub_cancel_left] at h; exact Nat.le_of_lt_succ h
 rw [Nat.add_assoc a c 1, Nat.add_sub_cancel_left, Nat.add_sub_cancel, Nat.add_sub_assoc h3]
theorem mA9 {a b : Nat} (h : a ≤ b) : (a : Int) + ((b - a : Nat) : Int) = (b : Int) := by rw [← Int.natCast_add, Nat.add_sub_of_le h]
theorem mG9 {a i g i' : Nat} (h : i' + g = a + i + 1) : (a : Int) + (i : Int) - (g : Int) + 1 = (i' : Int) := by lia
theorem mC9 {i k t : Nat} (h : t < k) : i + (k - 1 - t) = i + k - 1 - t := by
 rw [← Nat.add_sub_assoc (Nat.le_sub_one_of_lt h), ← Nat.add_sub_assoc (Nat.succ_le_of_lt (Nat.lt_of_le_of_lt (Nat.zero_le _) h))]
theorem mD9 {i g t : Nat} (h : t < g) (h2 : g ≤ i + 1) : i - (g - 1 - t) = i + 1 - g + t := by
 obtain ⟨c, rfl⟩ := Nat.exists_eq_add_of_lt h
 obtain ⟨d, hd⟩ := Nat.exists_eq_add_of_le h2
 have e : i = t + c + d := Nat.succ.inj (by rw [Nat.succ_eq_add_one, hd, Nat.add_right_comm])
 subst e
 have e1 : t + c + 1 - 1 - t = c := by rw [Nat.add_sub_cancel, Nat.add_sub_cancel_left]
 have e2 : t + c + d + 1 - (t + c + 1) = d := by rw [Nat.add_right_comm, Nat.add_sub_cancel_left]
 rw [e1, e2, Nat.add_right_comm, Nat.add_sub_cancel, Nat.add_comm]
theorem mE9 {a i k h : Nat} (h1 : a ≤ i) (h2 : i + k ≤ h) (h3 : 0 < k) : a ≤ i + k - 1 ∧ i + k - 1 < h ∧ i + k - 1 + 1 = i + k := by
 have e : i + k - 1 + 1 = i + k := Nat.sub_add_cancel (Nat.le_trans h3 (Nat.le_add_left _ _))
 exact ⟨Nat.le_sub_of_add_le (Nat.le_trans (Nat.add_le_add_right h1 1) (Nat.add_le_add_left h3 i)), Nat.lt_of_succ_le (by rw [Nat.succ_eq_add_one, e]; exact h2), e⟩
theorem mF9 {a i k h : Nat} (hk : 0 < k) (h1 : a ≤ i) (h2 : i + k ≤ h) : i - a < h - a := Nat.sub_lt_sub_right h1 (Nat.lt_of_lt_of_le (Nat.lt_add_of_pos_right hk) h2)
theorem rev_get {A : List Str} {alo i t : Nat} (hi : i < A.length) (ha : alo ≤ i) (ht : t < i + 1 - alo) : ((A.take (i + 1)).drop alo).reverse[t]? = A[i - t]? := by
 have hl : ((A.take (i + 1)).drop alo).length = i + 1 - alo := by simp; lia
 rw [List.getElem?_reverse (by rw [hl]; exact ht), hl, List.getElem?_drop, List.getElem?_take, if_pos (by lia)]
 congr 1; exact mH9 ht ha
theorem bsz_iff {A B : List Str} {alo blo i j k : Nat} (hi : i < A.length) (hj : j < B.length) (ha : alo ≤ i) (hb : blo ≤ j) : k ≤ bsz A B alo blo i j ↔ alo + k ≤ i + 1 ∧ blo + k ≤ j + 1 ∧ ∀ t, t < k → A[i - t]? = B[j - t]? := by
 unfold bsz
 rw [same_cpre, cpre_iff]
 have h1 : ((A.take (i + 1)).drop alo).reverse.length = i + 1 - alo := by simp; lia
 have h2 : ((B.take (j + 1)).drop blo).reverse.length = j + 1 - blo := by simp; lia
 rw [h1, h2]
 constructor
 ·rintro ⟨a, b, c⟩
  refine ⟨by lia, by lia, fun t ht => ?_⟩
  have := c t ht
  rwa [rev_get hi ha (by lia), rev_get hj hb (by lia)] at this
 ·rintro ⟨a, b, c⟩
  refine ⟨by lia, by lia, fun t ht => ?_⟩
  rw [rev_get hi ha (by lia), rev_get hj hb (by lia)]
  exact c t ht
theorem mem_grid {e : Nat → Nat → List (Int × Int × Int)} {na nb : Nat} {y : Int × Int × Int} : y ∈ grid e na nb ↔ ∃ i j, i < na ∧ j < nb ∧ y ∈ e i j := by
 unfold grid
 simp only [List.mem_flatMap, List.mem_range]
 constructor
 ·rintro ⟨i, hi, j, hj, h⟩; exact ⟨i, j, hi, hj, h⟩
 ·rintro ⟨i, j, hi, hj, h⟩; exact ⟨i, hi, j, hj, h⟩
theorem lt3_eq {x y : Int × Int × Int} (h1 : lt3 x y = false) (h2 : lt3 y x = false) : x = y := by
 obtain ⟨a, b, c⟩ := x; obtain ⟨d, e, f⟩ := y
 rw [lt3_not] at h1 h2
 obtain ⟨rfl, p, q⟩ := lexE h1 h2
 obtain ⟨rfl, p, q⟩ := lexE p q
 have e3 : c = f := Int.le_antisymm (Int.not_lt.mp q) (Int.not_lt.mp p)
 subst e3; rfl
theorem bsz_block {A B : List Str} {alo ahi blo bhi i j g : Nat} (ha2 : ahi ≤ A.length) (hb2 : bhi ≤ B.length) (hi : alo ≤ i) (hi2 : i < ahi) (hj : blo ≤ j) (hj2 : j < bhi) (e : g = bsz A B alo blo i j) (hg : 0 < g) :
  ∃ i' j', i' + g = i + 1 ∧ j' + g = j + 1 ∧ alo ≤ i' ∧ i' + g ≤ ahi ∧ blo ≤ j' ∧ j' + g ≤ bhi ∧ (A.drop i').take g = (B.drop j').take g := by
 have := (bsz_iff (A := A) (B := B) (alo := alo) (blo := blo) (i := i) (j := j) (k := g) (Nat.lt_of_lt_of_le hi2 ha2) (Nat.lt_of_lt_of_le hj2 hb2) hi hj).mp (Nat.le_of_eq e)
 obtain ⟨a, b, c⟩ := this
 refine ⟨i + 1 - g, j + 1 - g, by lia, by lia, by lia, by lia, by lia, by lia, blk_iff.mpr fun t ht => ?_⟩
 have := c (g - 1 - t) (by lia)
 rwa [mD9 ht (Nat.le_trans (Nat.le_add_left _ _) a), mD9 ht (Nat.le_trans (Nat.le_add_left _ _) b)] at this
theorem win_law {A0 B0 : List Str} {alo ahi blo bhi : Nat} (ha : alo < ahi) (ha2 : ahi ≤ A0.length) (hb : blo < bhi) (hb2 : bhi ≤ B0.length) {x y : Int × Int × Int}
  (hx : IsLeast (((0 : Int), (alo : Int), (blo : Int)) :: grid (eF A0 B0 alo ahi blo bhi) (ahi - alo) (bhi - blo)) x) (hy : IsLeast (((0 : Int), (alo : Int), (blo : Int)) :: grid (eB A0 B0 alo ahi blo bhi) (ahi - alo) (bhi - blo)) y) :
  ∃ k i j : Nat, x = (-(k : Int), (i : Int), (j : Int)) ∧ y = x ∧ IsBest A0 B0 alo ahi blo bhi k i j := by
 have front : ∀ k' i' j' : Nat, 0 < k' → alo ≤ i' → i' + k' ≤ ahi → blo ≤ j' → j' + k' ≤ bhi → (A0.drop i').take k' = (B0.drop j').take k' → ∃ f : Nat, k' ≤ f ∧ lt3 (-(f : Int), (i' : Int), (j' : Int)) x = false := by
  intro k' i' j' hk h1 h2 h3 h4 h5
  refine ⟨fsz A0 B0 ahi bhi i' j', (fsz_iff ha2 hb2 (by lia) (by lia)).mpr ⟨h2, h4, blk_iff.mp h5⟩, hx.2 _ (.tail _ (mem_grid.mpr ⟨i' - alo, j' - blo, mF9 hk h1 h2, mF9 hk h3 h4, ?_⟩))⟩
  unfold eF
  rw [Nat.add_sub_of_le h1, Nat.add_sub_of_le h3, List.mem_singleton, mA9 h1, mA9 h3]
 have notless : ∀ k' i' j' : Nat, 0 < k' → alo ≤ i' → i' + k' ≤ ahi → blo ≤ j' → j' + k' ≤ bhi → (A0.drop i').take k' = (B0.drop j').take k' → lt3 (-(k' : Int), (i' : Int), (j' : Int)) x = false := by
  intro k' i' j' hk h1 h2 h3 h4 h5
  obtain ⟨f, hf, h⟩ := front k' i' j' hk h1 h2 h3 h4 h5
  rw [lt3_not] at h ⊢
  rintro (p | ⟨p, q⟩)
  ·exact h (.inl (Int.lt_of_le_of_lt (Int.neg_le_neg (Int.ofNat_le.mpr hf)) p))
  ·rcases Nat.lt_or_eq_of_le hf with g | rfl
   ·exact h (.inl (p ▸ Int.neg_lt_neg (Int.ofNat_lt.mpr g)))
   ·exact h (.inr ⟨p, q⟩)
 have hx0 : lt3 ((0 : Int), (alo : Int), (blo : Int)) x = false := hx.2 _ (.head _)
 have hxs : ∃ k i j : Nat, x = (-(k : Int), (i : Int), (j : Int)) ∧ alo ≤ i ∧ i + k ≤ ahi ∧ blo ≤ j ∧ j + k ≤ bhi ∧ (A0.drop i).take k = (B0.drop j).take k := by
  rcases List.mem_cons.mp hx.1 with h | h
  ·exact ⟨0, alo, blo, by rw [h]; rfl, Nat.le_refl _, Nat.le_of_lt ha, Nat.le_refl _, Nat.le_of_lt hb, by simp⟩
  ·obtain ⟨i, j, hi, hj, h⟩ := mem_grid.mp h
   unfold eF at h
   rw [List.mem_singleton] at h
   have := (fsz_iff (A := A0) (B := B0) (k := fsz A0 B0 ahi bhi (alo + i) (blo + j)) ha2 hb2 (i := alo + i) (j := blo + j) (Nat.le_of_lt (Nat.add_lt_of_lt_sub' hi)) (Nat.le_of_lt (Nat.add_lt_of_lt_sub' hj))).mp (Nat.le_refl _)
   exact ⟨_, alo + i, blo + j, by rw [h]; simp, Nat.le_add_right _ _, this.1, Nat.le_add_right _ _, this.2.1, blk_iff.mpr this.2.2⟩
 obtain ⟨k, i, j, ex, q1, q2, q3, q4, q5⟩ := hxs
 have hbest : IsBest A0 B0 alo ahi blo bhi k i j := by
  refine ⟨q1, q2, q3, q4, q5, fun hk => ?_, fun k' i' j' a b c d e f => by rw [← ex]; exact notless k' i' j' a b c d e f⟩
  subst hk
  rw [ex, lt3_not] at hx0
  have e1 : i = alo := Nat.le_antisymm (Nat.le_of_not_lt fun h => hx0 (.inr ⟨rfl, .inl (Int.ofNat_lt.mpr h)⟩)) q1
  exact ⟨e1, Nat.le_antisymm (Nat.le_of_not_lt fun h => hx0 (.inr ⟨rfl, .inr ⟨by rw [e1], Int.ofNat_lt.mpr h⟩⟩)) q3⟩
 refine ⟨k, i, j, ex, ?_, hbest⟩
 have hys : y = ((0 : Int), (alo : Int), (blo : Int)) ∨ ∃ g i' j' : Nat, 0 < g ∧ y = (-(g : Int), (i' : Int), (j' : Int)) ∧ alo ≤ i' ∧ i' + g ≤ ahi ∧ blo ≤ j' ∧ j' + g ≤ bhi ∧ (A0.drop i').take g = (B0.drop j').take g := by
  rcases List.mem_cons.mp hy.1 with h | h
  ·exact .inl h
  ·right
   obtain ⟨i, j, hi, hj, h⟩ := mem_grid.mp h
   unfold eB at h
   split at h
   ·rename_i hg
    rw [List.mem_singleton] at h
    obtain ⟨i', j', z1, z2, z3, z4, z5, z6, z7⟩ := bsz_block (A := A0) (B := B0) (alo := alo) (ahi := ahi) (blo := blo) (bhi := bhi) (i := alo + i) (j := blo + j) ha2 hb2 (Nat.le_add_right _ _) (Nat.add_lt_of_lt_sub' hi) (Nat.le_add_right _ _) (Nat.add_lt_of_lt_sub' hj) rfl hg
    refine ⟨_, i', j', hg, ?_, z3, z4, z5, z6, z7⟩
    rw [h]
    rw [mG9 z1, mG9 z2]
   ·cases h
 by_cases hk : k = 0
 ·subst hk
  have e := hbest.2.2.2.2.2.1 rfl
  rcases hys with h | ⟨g, i', j', hg, h, z1, z2, z3, z4, z5⟩
  ·rw [h, ex, e.1, e.2]; rfl
  ·have := notless g i' j' hg z1 z2 z3 z4 z5
   rw [ex, lt3_not] at this
   exact absurd (.inl (Int.neg_lt_neg (Int.ofNat_lt.mpr hg))) this
 ·have hk' : 0 < k := Nat.pos_of_ne_zero hk
  have hmem : (-(k : Int), (i : Int), (j : Int)) ∈ grid (eB A0 B0 alo ahi blo bhi) (ahi - alo) (bhi - blo) := by
   have n1 := mE9 q1 q2 hk'
   have n2 := mE9 q3 q4 hk'
   have hge : k ≤ bsz A0 B0 alo blo (i + k - 1) (j + k - 1) := (bsz_iff (Nat.lt_of_lt_of_le n1.2.1 ha2) (Nat.lt_of_lt_of_le n2.2.1 hb2) n1.1 n2.1).mpr ⟨by rw [n1.2.2]; exact Nat.add_le_add_right q1 k, by rw [n2.2.2]; exact Nat.add_le_add_right q3 k, fun t ht => by
    have := blk_iff.mp q5 (k - 1 - t) (Nat.lt_of_le_of_lt (Nat.sub_le _ _) (Nat.sub_lt hk' (Nat.succ_pos 0)))
    rwa [mC9 ht, mC9 ht] at this⟩
   obtain ⟨i', j', z1, z2, z3, z4, z5, z6, z7⟩ := bsz_block (A := A0) (B := B0) (alo := alo) (ahi := ahi) (blo := blo) (bhi := bhi) (i := i + k - 1) (j := j + k - 1) ha2 hb2 n1.1 n1.2.1 n2.1 n2.2.1 rfl (Nat.lt_of_lt_of_le hk' hge)
   have hn := notless _ i' j' (Nat.lt_of_lt_of_le hk' hge) z3 z4 z5 z6 z7
   rw [ex, lt3_not] at hn
   have eg : bsz A0 B0 alo blo (i + k - 1) (j + k - 1) = k := Nat.le_antisymm (Nat.le_of_not_lt fun h => hn (.inl (Int.neg_lt_neg (Int.ofNat_lt.mpr h)))) hge
   refine mem_grid.mpr ⟨i + k - 1 - alo, j + k - 1 - blo, Nat.sub_lt_sub_right n1.1 n1.2.1, Nat.sub_lt_sub_right n2.1 n2.2.1, ?_⟩
   unfold eB
   rw [Nat.add_sub_of_le n1.1, Nat.add_sub_of_le n2.1, eg, if_pos hk', List.mem_singleton, mG9 (a := alo) (i := i + k - 1 - alo) (g := k) (i' := i) (by rw [Nat.add_sub_of_le n1.1, n1.2.2]), mG9 (a := blo) (i := j + k - 1 - blo) (g := k) (i' := j) (by rw [Nat.add_sub_of_le n2.1, n2.2.2])]
  have h1 := hy.2 _ (.tail _ hmem)
  rw [← ex] at h1
  rcases hys with h | ⟨g, i', j', hg, h, z1, z2, z3, z4, z5⟩
  ·rw [h, ex, lt3_not] at h1
   exact absurd (.inl (Int.neg_lt_neg (Int.ofNat_lt.mpr hk'))) h1
  ·have h2 := notless g i' j' hg z1 z2 z3 z4 z5
   rw [← h] at h2
   exact lt3_eq h2 h1
end
section
theorem mK9 {i t : Nat} : i - (t + 1) = i - 1 - t := by rw [Nat.sub_sub, Nat.add_comm]
theorem nK1 {a k i : Nat} (q : a < i) (h : a + (k + 1) ≤ i + 1) : a + k ≤ i - 1 + 1 := by rw [Nat.sub_add_cancel (Nat.zero_lt_of_lt q)]; exact Nat.le_of_succ_le_succ h
theorem nK2 {a k i : Nat} (q : a < i) (h : a + k ≤ i - 1 + 1) : a + (k + 1) ≤ i + 1 := by rw [Nat.sub_add_cancel (Nat.zero_lt_of_lt q)] at h; exact Nat.succ_le_succ h
theorem nK3 {a k i b j : Nat} (ha : a ≤ i) (hb : b ≤ j) (q : ¬(a < i ∧ b < j)) (h1 : a + k ≤ i + 1) (h2 : b + k ≤ j + 1) : k ≤ 0 + 1 := by
 by_cases h : a < i
 ·have e : j = b := Nat.le_antisymm (Nat.le_of_not_lt fun h' => q ⟨h, h'⟩) hb
  subst e; exact Nat.le_of_add_le_add_left h2
 ·have e : i = a := Nat.le_antisymm (Nat.le_of_not_lt h) ha
  subst e; exact Nat.le_of_add_le_add_left h1
theorem bsz_rec {A B : List Str} {alo blo i j : Nat} (hi : i < A.length) (hj : j < B.length) (ha : alo ≤ i) (hb : blo ≤ j) :
  bsz A B alo blo i j = if A[i]? = B[j]? then (if alo < i ∧ blo < j then bsz A B alo blo (i - 1) (j - 1) else 0) + 1 else 0 := by
 have key : ∀ k, k ≤ bsz A B alo blo i j ↔ k ≤ (if A[i]? = B[j]? then (if alo < i ∧ blo < j then bsz A B alo blo (i - 1) (j - 1) else 0) + 1 else 0) := by
  intro k
  rw [bsz_iff hi hj ha hb]
  by_cases e : A[i]? = B[j]?
  ·rw [if_pos e]
   by_cases q : alo < i ∧ blo < j
   ·rw [if_pos q]
    cases k with
    | zero => simp; exact ⟨Nat.le_succ_of_le ha, Nat.le_succ_of_le hb⟩
    | succ k =>
     rw [Nat.add_le_add_iff_right, bsz_iff (Nat.lt_of_le_of_lt (Nat.sub_le _ _) hi) (Nat.lt_of_le_of_lt (Nat.sub_le _ _) hj) (Nat.le_sub_one_of_lt q.1) (Nat.le_sub_one_of_lt q.2)]
     constructor
     ·rintro ⟨a, b, c⟩
      refine ⟨nK1 q.1 a, nK1 q.2 b, fun t ht => ?_⟩
      have := c (t + 1) (Nat.succ_lt_succ ht)
      rwa [mK9 (i := i) (t := t), mK9 (i := j) (t := t)] at this
     ·rintro ⟨a, b, c⟩
      refine ⟨nK2 q.1 a, nK2 q.2 b, fun t ht => ?_⟩
      cases t with
      | zero => exact e
      | succ t =>
       have := c t (Nat.lt_of_succ_lt_succ ht)
       rwa [← mK9 (i := i) (t := t), ← mK9 (i := j) (t := t)] at this
   ·rw [if_neg q]
    constructor
    ·rintro ⟨a, b, c⟩; exact nK3 ha hb q a b
    ·intro h
     refine ⟨Nat.add_le_add ha h, Nat.add_le_add hb h, fun t ht => ?_⟩
     have : t = 0 := Nat.lt_one_iff.mp (Nat.lt_of_lt_of_le ht h)
     subst this; exact e
  ·rw [if_neg e]
   constructor
   ·rintro ⟨a, b, c⟩
    rcases Nat.eq_zero_or_pos k with h | h
    ·exact Nat.le_of_eq h
    ·exact absurd (c 0 h) e
   ·intro h
    have : k = 0 := Nat.le_zero.mp h
    subst this
    exact ⟨Nat.le_succ_of_le ha, Nat.le_succ_of_le hb, fun t ht => absurd ht (Nat.not_lt_zero _)⟩
 have h1 := (key _).mp (Nat.le_refl _)
 have h2 := (key _).mpr (Nat.le_refl _)
 exact Nat.le_antisymm h1 h2
noncomputable def Vis (alo blo bhi i jb i' j' : Nat) : Prop := alo ≤ i' ∧ blo ≤ j' ∧ j' < bhi ∧ (i' < i ∨ (i' = i ∧ j' < jb))
structure DpInv (A B : List Str) (alo blo bhi i jb k bi bj : Nat) : Prop where
 src : (k = 0 ∧ bi = alo ∧ bj = blo) ∨ ∃ i' j', Vis alo blo bhi i jb i' j' ∧ k = bsz A B alo blo i' j' ∧ 0 < k ∧ bi + k = i' + 1 ∧ bj + k = j' + 1
 top : ∀ i' j', Vis alo blo bhi i jb i' j' → bsz A B alo blo i' j' ≤ k
 first : ∀ i' j', Vis alo blo bhi i jb i' j' → bsz A B alo blo i' j' = k → 0 < k → bi + k < i' + 1 ∨ (bi + k = i' + 1 ∧ bj + k ≤ j' + 1)
theorem dp_start (A B : List Str) (alo blo bhi : Nat) : DpInv A B alo blo bhi alo blo 0 alo blo :=
 ⟨.inl ⟨rfl, rfl, rfl⟩, fun i' j' h => by unfold Vis at h; lia, fun i' j' h => by unfold Vis at h; lia⟩
theorem dp_skip {A B : List Str} {alo blo bhi i jb jb' k bi bj : Nat} (h : DpInv A B alo blo bhi i jb k bi bj) (hle : jb ≤ jb') (hz : alo ≤ i → ∀ j', blo ≤ j' → j' < bhi → jb ≤ j' → j' < jb' → bsz A B alo blo i j' = 0) : DpInv A B alo blo bhi i jb' k bi bj := by
 have key : ∀ i' j', Vis alo blo bhi i jb' i' j' → Vis alo blo bhi i jb i' j' ∨ bsz A B alo blo i' j' = 0 := by
  rintro i' j' ⟨a, b, c, d | ⟨rfl, e⟩⟩
  ·exact .inl ⟨a, b, c, .inl d⟩
  ·by_cases q : j' < jb
   ·exact .inl ⟨a, b, c, .inr ⟨rfl, q⟩⟩
   ·exact .inr (hz a j' b c (by lia) e)
 refine ⟨?_, fun i' j' v => ?_, fun i' j' v e hk => ?_⟩
 ·rcases h.src with s | ⟨i', j', v, r⟩
  ·exact .inl s
  ·exact .inr ⟨i', j', ⟨v.1, v.2.1, v.2.2.1, v.2.2.2.imp id fun q => ⟨q.1, Nat.lt_of_lt_of_le q.2 hle⟩⟩, r⟩
 ·rcases key i' j' v with v | z
  ·exact h.top i' j' v
  ·lia
 ·rcases key i' j' v with v | z
  ·exact h.first i' j' v e hk
  ·lia
theorem dp_hit {A B : List Str} {alo blo bhi i j k bi bj v : Nat} (h : DpInv A B alo blo bhi i j k bi bj) (hi : alo ≤ i) (hj : blo ≤ j) (hj2 : j < bhi) (ev : v = bsz A B alo blo i j) (hv : 0 < v) (hvi : v ≤ i + 1) (hvj : v ≤ j + 1) :
  (k < v → DpInv A B alo blo bhi i (j + 1) v (i + 1 - v) (j + 1 - v)) ∧ (¬ k < v → DpInv A B alo blo bhi i (j + 1) k bi bj) := by
 have key : ∀ i' j', Vis alo blo bhi i (j + 1) i' j' → Vis alo blo bhi i j i' j' ∨ (i' = i ∧ j' = j) := by
  rintro i' j' ⟨a, b, c, d | ⟨rfl, e⟩⟩
  ·exact .inl ⟨a, b, c, .inl d⟩
  ·by_cases q : j' < j
   ·exact .inl ⟨a, b, c, .inr ⟨rfl, q⟩⟩
   ·exact .inr ⟨rfl, Nat.le_antisymm (Nat.le_of_lt_succ e) (Nat.le_of_not_lt q)⟩
 constructor
 ·intro hk
  refine ⟨.inr ⟨i, j, ⟨hi, hj, hj2, .inr ⟨rfl, Nat.lt_succ_self _⟩⟩, ev, hv, Nat.sub_add_cancel hvi, Nat.sub_add_cancel hvj⟩, fun i' j' w => ?_, fun i' j' w e _ => ?_⟩
  ·rcases key i' j' w with w | ⟨rfl, rfl⟩
   ·exact Nat.le_trans (h.top i' j' w) (Nat.le_of_lt hk)
   ·exact Nat.le_of_eq ev.symm
  ·rcases key i' j' w with w | ⟨rfl, rfl⟩
   ·exact absurd (Nat.le_trans (Nat.le_of_eq e.symm) (h.top i' j' w)) (Nat.not_le.mpr hk)
   ·exact .inr ⟨Nat.sub_add_cancel hvi, Nat.le_of_eq (Nat.sub_add_cancel hvj)⟩
 ·intro hk
  refine ⟨?_, fun i' j' w => ?_, fun i' j' w e hk0 => ?_⟩
  ·rcases h.src with s | ⟨i', j', w, r⟩
   ·exact .inl s
   ·exact .inr ⟨i', j', ⟨w.1, w.2.1, w.2.2.1, w.2.2.2.imp id fun q => ⟨q.1, Nat.lt_succ_of_lt q.2⟩⟩, r⟩
  ·rcases key i' j' w with w | ⟨rfl, rfl⟩
   ·exact h.top i' j' w
   ·exact Nat.le_trans (Nat.le_of_eq ev.symm) (Nat.le_of_not_lt hk)
  ·rcases key i' j' w with w | ⟨rfl, rfl⟩
   ·exact h.first i' j' w e hk0
   ·rcases h.src with s | ⟨i2, j2, w2, e2, _, q1, q2⟩
    ·exact absurd (ev.trans (e.trans s.1)) (Nat.ne_of_gt hv)
    ·rw [q1, q2]; exact w2.2.2.2.imp Nat.succ_lt_succ fun q => ⟨congrArg (· + 1) q.1, Nat.succ_le_succ (Nat.le_of_lt q.2)⟩
theorem dp_row {A B : List Str} {alo blo bhi i k bi bj : Nat} (h : DpInv A B alo blo bhi i bhi k bi bj) : DpInv A B alo blo bhi (i + 1) blo k bi bj := by
 have key : ∀ i' j', Vis alo blo bhi (i + 1) blo i' j' ↔ Vis alo blo bhi i bhi i' j' := by
  intro i' j'
  constructor
  ·rintro ⟨a, b, c, d | ⟨rfl, d⟩⟩
   ·exact ⟨a, b, c, (Nat.lt_or_eq_of_le (Nat.le_of_lt_succ d)).imp id fun e => ⟨e, c⟩⟩
   ·exact absurd d (Nat.not_lt.mpr b)
  ·rintro ⟨a, b, c, d | ⟨rfl, d⟩⟩
   ·exact ⟨a, b, c, .inl (Nat.lt_succ_of_lt d)⟩
   ·exact ⟨a, b, c, .inl (Nat.lt_succ_self _)⟩
 refine ⟨?_, fun i' j' v => h.top i' j' ((key _ _).mp v), fun i' j' v => h.first i' j' ((key _ _).mp v)⟩
 rcases h.src with s | ⟨i', j', w, r⟩
 ·exact .inl s
 ·exact .inr ⟨i', j', (key _ _).mpr w, r⟩
theorem dp_end {A B : List Str} {alo ahi blo bhi k bi bj : Nat} (ha : alo ≤ ahi) (ha2 : ahi ≤ A.length) (hb : blo ≤ bhi) (hb2 : bhi ≤ B.length) (h : DpInv A B alo blo bhi ahi blo k bi bj) : IsBest A B alo ahi blo bhi k bi bj := by
 have notless : ∀ k' i' j', 0 < k' → alo ≤ i' → i' + k' ≤ ahi → blo ≤ j' → j' + k' ≤ bhi → (A.drop i').take k' = (B.drop j').take k' → lt3 (-(k' : Int), (i' : Int), (j' : Int)) (-(k : Int), (bi : Int), (bj : Int)) = false := by
  intro k' i' j' hk h1 h2 h3 h4 h5
  have n1 := mE9 h1 h2 hk
  have n2 := mE9 h3 h4 hk
  have hv : Vis alo blo bhi ahi blo (i' + k' - 1) (j' + k' - 1) := ⟨n1.1, n2.1, n2.2.1, .inl n1.2.1⟩
  have hge : k' ≤ bsz A B alo blo (i' + k' - 1) (j' + k' - 1) := (bsz_iff (Nat.lt_of_lt_of_le n1.2.1 ha2) (Nat.lt_of_lt_of_le n2.2.1 hb2) n1.1 n2.1).mpr ⟨by rw [n1.2.2]; exact Nat.add_le_add_right h1 k', by rw [n2.2.2]; exact Nat.add_le_add_right h3 k', fun t ht => by
   have := blk_iff.mp h5 (k' - 1 - t) (Nat.lt_of_le_of_lt (Nat.sub_le _ _) (Nat.sub_lt hk (Nat.succ_pos 0)))
   rwa [mC9 ht, mC9 ht] at this⟩
  have ht := h.top _ _ hv
  have hf := h.first _ _ hv
  have hle := Nat.le_trans hge ht
  rw [lt3_not]
  simp only
  by_cases q : k' = k
  ·subst q
   have := hf (Nat.le_antisymm ht hge) hk
   rw [n1.2.2, n2.2.2] at this
   clear h hf hv hge ht n1 n2 h5
   rintro (p | ⟨_, p | ⟨p, p'⟩⟩)
   ·exact Int.lt_irrefl _ p
   ·exact this.elim (fun t => Nat.lt_asymm (Nat.lt_of_add_lt_add_right t) (Int.ofNat_lt.mp p)) (fun t => Nat.ne_of_lt (Int.ofNat_lt.mp p) (Nat.add_right_cancel t.1).symm)
   ·exact this.elim (fun t => Nat.ne_of_lt (Nat.lt_of_add_lt_add_right t) (Int.ofNat_inj.mp p).symm) (fun t => Nat.not_lt.mpr (Nat.le_of_add_le_add_right t.2) (Int.ofNat_lt.mp p'))
  ·clear h hf hv hge ht n1 n2 h5
   rintro (p | ⟨p, _⟩)
   ·exact absurd hle (Nat.not_le.mpr (Int.ofNat_lt.mp (Int.lt_of_neg_lt_neg p)))
   ·exact q (Int.ofNat_inj.mp (Int.neg_inj.mp p))
 rcases h.src with ⟨rfl, rfl, rfl⟩ | ⟨i', j', v, e, hk, q1, q2⟩
 ·exact ⟨Nat.le_refl _, ha, Nat.le_refl _, hb, by simp, fun _ => ⟨rfl, rfl⟩, notless⟩
 ·unfold Vis at v
  obtain ⟨i2, j2, z1, z2, z3, z4, z5, z6, z7⟩ := bsz_block (A := A) (B := B) (alo := alo) (ahi := ahi) (blo := blo) (bhi := bhi) (i := i') (j := j') ha2 hb2 v.1 (v.2.2.2.resolve_right fun z => Nat.not_lt.mpr v.2.1 z.2) v.2.1 v.2.2.1 e hk
  have e1 : i2 = bi := Nat.add_right_cancel (z1.trans q1.symm)
  have e2 : j2 = bj := Nat.add_right_cancel (z2.trans q2.symm)
  subst e1 e2
  exact ⟨z3, z4, z5, z6, z7, fun q => absurd q (Nat.ne_of_gt hk), notless⟩
end
section
inductive Blks (A B : List Str) : Nat → Nat → Nat → Nat → List (Int × Int × Int) → Prop
 | empty (alo ahi blo bhi : Nat) : alo = ahi ∨ blo = bhi → Blks A B alo ahi blo bhi []
 | none (alo ahi blo bhi i j : Nat) : alo < ahi → blo < bhi → IsBest A B alo ahi blo bhi 0 i j → Blks A B alo ahi blo bhi []
 | step (alo ahi blo bhi k i j : Nat) (l1 l2 : List (Int × Int × Int)) : alo < ahi → blo < bhi → IsBest A B alo ahi blo bhi k i j → 0 < k → Blks A B alo i blo j l1 → Blks A B (i + k) ahi (j + k) bhi l2 →
   Blks A B alo ahi blo bhi (l1 ++ [((i : Int), (j : Int), (k : Int))] ++ l2)
theorem news_join {h₀ b0 h : Heap} {L : Addr} {m : Str → Option Value} {news : List (Addr × Obj)} (F : Fr h₀ L b0 m) (N : News h₀ L b0 news) (K : Keeps b0 h) (led : List (Addr × Obj)) (hl : ∀ p ∈ led, h.get? p.1 = some p.2 ∧ b0.get? p.1 = none) :
  Fr h₀ L h m ∧ News h₀ L h (led ++ news) := by
 refine ⟨fr_keeps F K, fun p hp => ?_⟩
 rcases List.mem_append.mp hp with hp | hp
 ·obtain ⟨e, n⟩ := hl p hp
  refine ⟨e, ?_, ?_⟩
  ·rintro rfl
   obtain ⟨o', _, _, ho, _⟩ := F.ns
   rw [n] at ho; cases ho
  ·cases e' : h₀.get? p.1 with
   | none => rfl
   | some o' => rw [F.keep _ _ e'] at n; cases n
 ·exact news_keeps N K p hp
theorem news_swap {h₀ h : Heap} {L : Addr} {a b : Addr × Obj} {l1 l2 : List (Addr × Obj)} (N : News h₀ L h ((a :: l1) ++ (b :: l2))) : News h₀ L h (a :: b :: (l1 ++ l2)) := fun p hp => by
 apply N p
 simp only [List.mem_cons, List.mem_append] at hp ⊢
 rcases hp with h | h | h | h
 ·exact .inl (.inl h)
 ·exact .inr (.inl h)
 ·exact .inl (.inr h)
 ·exact .inr (.inr h)
section
open SeqAt AutoSeq1 MeetsSeq MeetsSeq2 MeetsSeq3 SeqRoads2
theorem ne_same3 {prog : Program} {w : World} {A : Around} {E : Value → Shared → Prop} {s : Shared} {h₀ : Heap} {L l b : Addr} {news : List (Addr × Obj)} {nn : Nat} {x y z : Int} {ta tb tc ua ub uc : Tok} {Q : Value → Shared → Prop} (RR : Room A (nn + 1)) (N : News h₀ L s.heap news)
  (hl : (l, ({ cls := .type "tuple", data := .seq #[.int x ta, .int y tb, .int z tc] } : Obj)) ∈ news) (hb : (b, ({ cls := .type "tuple", data := .seq #[.int x ua, .int y ub, .int z uc] } : Obj)) ∈ news) (h : Q (.bool false) s) :
  wpAny (model prog w) A (compareOp .NotEq (.ref l) (.ref b)) Q E s := by
 refine RcNeAt.tuples (items := #[.int x ta, .int y tb, .int z tc]) (items2 := #[.int x ua, .int y ub, .int z uc]) (e := fun _ => true) ⟨_, (N _ hl).1, rfl, _, rfl⟩ ⟨_, (N _ hb).1, rfl, _, rfl⟩ (Room.unitsLt RR) ?_ prog w E Q h
 intro j h1 h2
 have h1' : j < 3 := h1
 rcases (by lia : j = 0 ∨ j = 1 ∨ j = 2) with rfl | rfl | rfl
 ·have := EqAt.int_int (A := A.in1) (s := s) x ta x ua
  rw [beq_self_eq_true] at this; exact this
 ·have := EqAt.int_int (A := A.in1) (s := s) y tb y ub
  rw [beq_self_eq_true] at this; exact this
 ·have := EqAt.int_int (A := A.in1) (s := s) z tc z uc
  rw [beq_self_eq_true] at this; exact this
end
theorem news_give {h₀ h : Heap} {L : Addr} {news l : List (Addr × Obj)} (N : News h₀ L h news) (sub : ∀ p ∈ l, p ∈ news) : ∀ p ∈ l, h.get? p.1 = some p.2 ∧ h₀.get? p.1 = none := fun p hp => ⟨(N p (sub p hp)).1, (N p (sub p hp)).2.2⟩
end
section
theorem best_unique {A B : List Str} {alo ahi blo bhi k i j k' i' j' : Nat} (h : IsBest A B alo ahi blo bhi k i j) (h' : IsBest A B alo ahi blo bhi k' i' j') : k = k' ∧ i = i' ∧ j = j' := by
 obtain ⟨a1, a2, a3, a4, a5, a6, a7⟩ := h
 obtain ⟨b1, b2, b3, b4, b5, b6, b7⟩ := h'
 rcases Nat.eq_zero_or_pos k with rfl | hk <;> rcases Nat.eq_zero_or_pos k' with rfl | hk'
 ·have := a6 rfl; have := b6 rfl; lia
 ·have := a7 k' i' j' hk' b1 b2 b3 b4 b5
  rw [lt3_not] at this; simp only at this; lia
 ·have := b7 k i j hk a1 a2 a3 a4 a5
  rw [lt3_not] at this; simp only at this; lia
 ·have e := lt3_eq (a7 k' i' j' hk' b1 b2 b3 b4 b5) (b7 k i j hk a1 a2 a3 a4 a5)
  simp only [Prod.mk.injEq] at e
  lia
noncomputable def InW (A B : List Str) (alo ahi blo bhi : Nat) (x : Int × Int × Int) : Prop :=
 ∃ i j k : Nat, x = ((i : Int), (j : Int), (k : Int)) ∧ 0 < k ∧ alo ≤ i ∧ i + k ≤ ahi ∧ blo ≤ j ∧ j + k ≤ bhi ∧ (A.drop i).take k = (B.drop j).take k
noncomputable def Bef (x y : Int × Int × Int) : Prop := x.1 + x.2.2 ≤ y.1 ∧ x.2.1 + x.2.2 ≤ y.2.1 ∧ ¬ (x.1 + x.2.2 = y.1 ∧ x.2.1 + x.2.2 = y.2.1)
theorem InW.wider {A B : List Str} {alo ahi blo bhi alo' ahi' blo' bhi' : Nat} {x : Int × Int × Int} (h : InW A B alo ahi blo bhi x) (h1 : alo' ≤ alo) (h2 : ahi ≤ ahi') (h3 : blo' ≤ blo) (h4 : bhi ≤ bhi') : InW A B alo' ahi' blo' bhi' x := by
 obtain ⟨i, j, k, e, a, b, c, d, f, g⟩ := h; exact ⟨i, j, k, e, a, by lia, by lia, by lia, by lia, g⟩
theorem blk_cat {A B : List Str} {i j k l : Nat} (h1 : (A.drop i).take k = (B.drop j).take k) (h2 : (A.drop (i + k)).take l = (B.drop (j + k)).take l) : (A.drop i).take (k + l) = (B.drop j).take (k + l) := by
 rw [blk_iff] at *
 intro t ht
 by_cases q : t < k
 ·exact h1 t q
 ·have := h2 (t - k) (by lia)
  rwa [show i + k + (t - k) = i + t by lia, show j + k + (t - k) = j + t by lia] at this
theorem blks_facts {A B : List Str} {alo ahi blo bhi : Nat} {l : List (Int × Int × Int)} (h : Blks A B alo ahi blo bhi l) : (∀ x ∈ l, InW A B alo ahi blo bhi x) ∧ l.Pairwise Bef := by
 induction h with
 | empty => exact ⟨fun _ h => (nomatch h), List.Pairwise.nil⟩
 | none => exact ⟨fun _ h => (nomatch h), List.Pairwise.nil⟩
 | step alo ahi blo bhi k i j l1 l2 ha hb HB hk _ _ ih1 ih2 =>
  obtain ⟨a1, a2, a3, a4, a5, a6, a7⟩ := HB
  have hc : InW A B alo ahi blo bhi ((i : Int), (j : Int), (k : Int)) := ⟨i, j, k, rfl, hk, a1, a2, a3, a4, a5⟩
  refine ⟨fun x hx => ?_, ?_⟩
  ·rcases List.mem_append.mp hx with hx | hx
   ·rcases List.mem_append.mp hx with hx | hx
    ·exact (ih1.1 x hx).wider (Nat.le_refl _) (Nat.le_trans (Nat.le_add_right _ _) a2) (Nat.le_refl _) (Nat.le_trans (Nat.le_add_right _ _) a4)
    ·rw [List.mem_singleton.mp hx]; exact hc
   ·exact (ih2.1 x hx).wider (Nat.le_trans a1 (Nat.le_add_right _ _)) (Nat.le_refl _) (Nat.le_trans a3 (Nat.le_add_right _ _)) (Nat.le_refl _)
  ·rw [List.pairwise_append, List.pairwise_append]
   refine ⟨⟨ih1.2, List.pairwise_singleton _ _, fun x hx y hy => ?_⟩, ih2.2, fun x hx y hy => ?_⟩
   ·rw [List.mem_singleton.mp hy]
    obtain ⟨i', j', k', rfl, z1, z2, z3, z4, z5, z6⟩ := ih1.1 x hx
    refine ⟨by simp only; lia, by simp only; lia, fun q => ?_⟩
    simp only at q
    have e1 : i' + k' = i := by lia
    have e2 : j' + k' = j := by lia
    have := a7 (k' + k) i' j' (Nat.lt_of_lt_of_le z1 (Nat.le_add_right _ _)) z2 (by lia) z4 (by lia) (blk_cat z6 (by rw [e1, e2]; exact a5))
    rw [lt3_not] at this; exact this (.inl (Int.neg_lt_neg (Int.ofNat_lt.mpr (Nat.lt_add_of_pos_left z1))))
   ·obtain ⟨i2, j2, k2, rfl, y1, y2, y3, y4, y5, y6⟩ := ih2.1 y hy
    rcases List.mem_append.mp hx with hx | hx
    ·obtain ⟨i', j', k', rfl, z1, z2, z3, z4, z5, z6⟩ := ih1.1 x hx
     refine ⟨by simp only; lia, by simp only; lia, fun q => ?_⟩
     simp only at q; lia
    ·rw [List.mem_singleton.mp hx]
     refine ⟨by simp only; lia, by simp only; lia, fun q => ?_⟩
     simp only at q
     have e1 : i + k = i2 := by lia
     have e2 : j + k = j2 := by lia
     have := a7 (k + k2) i j (Nat.lt_of_lt_of_le hk (Nat.le_add_right _ _)) a1 (by lia) a3 (by lia) (blk_cat a5 (by rw [e1, e2]; exact y6))
     rw [lt3_not] at this; exact this (.inl (Int.neg_lt_neg (Int.ofNat_lt.mpr (Nat.lt_add_of_pos_right y1))))
theorem blks_open {A B : List Str} {alo ahi blo bhi k i j : Nat} {l : List (Int × Int × Int)} (h : Blks A B alo ahi blo bhi l) (hb : IsBest A B alo ahi blo bhi k i j) (h1 : alo < ahi) (h2 : blo < bhi) :
  (k = 0 → l = []) ∧ (0 < k → ∃ l1 l2, l = l1 ++ [((i : Int), (j : Int), (k : Int))] ++ l2 ∧ Blks A B alo i blo j l1 ∧ Blks A B (i + k) ahi (j + k) bhi l2) := by
 cases h with
 | empty _ _ _ _ e => exact e.elim (fun q => absurd q (Nat.ne_of_lt h1)) (fun q => absurd q (Nat.ne_of_lt h2))
 | none _ _ _ _ i' j' _ _ HB =>
  obtain ⟨e1, e2, e3⟩ := best_unique HB hb
  exact ⟨fun _ => rfl, fun q => by lia⟩
 | step _ _ _ _ k' i' j' l1 l2 _ _ HB hk b1 b2 =>
  obtain ⟨e1, e2, e3⟩ := best_unique HB hb
  subst e1 e2 e3
  exact ⟨fun q => by lia, fun _ => ⟨l1, l2, rfl, b1, b2⟩⟩
theorem blks_empty {A B : List Str} {alo ahi blo bhi : Nat} {l : List (Int × Int × Int)} (h : Blks A B alo ahi blo bhi l) (e : ¬ (alo < ahi ∧ blo < bhi)) : l = [] := by
 cases h with
 | empty => rfl
 | none => rfl
 | step _ _ _ _ _ _ _ _ _ q1 q2 => exact absurd ⟨q1, q2⟩ e
end
section
noncomputable def posN (Bs : List Str) (c : Str) : List Nat := (List.range Bs.length).filter fun i => decide (Bs[i]? = some c)
theorem posn_eq (Bs : List Str) (c : Str) : posn Bs Bs.length c = (posN Bs c).map Int.ofNat := rfl
theorem posN_sorted (Bs : List Str) (c : Str) : (posN Bs c).Pairwise (· < ·) := List.Pairwise.filter _ List.pairwise_lt_range
theorem posN_mem {Bs : List Str} {c : Str} {j : Nat} : j ∈ posN Bs c ↔ Bs[j]? = some c := by
 unfold posN
 rw [List.mem_filter, List.mem_range]
 simp only [decide_eq_true_eq]
 exact ⟨fun h => h.2, fun h => ⟨(List.getElem?_eq_some_iff.mp h).1, h⟩⟩
noncomputable def nxt (Bs : List Str) (c : Str) (t : Nat) : Nat := ((posN Bs c)[t]?).getD Bs.length
theorem nxt_at {Bs : List Str} {c : Str} {t j : Nat} (h : (posN Bs c)[t]? = some j) : nxt Bs c t = j ∧ Bs[j]? = some c ∧ j < nxt Bs c (t + 1) := by
 have hm := posN_mem.mp (List.mem_of_getElem? h)
 refine ⟨by unfold nxt; rw [h]; rfl, hm, ?_⟩
 unfold nxt
 cases e : (posN Bs c)[t + 1]? with
 | none => exact (List.getElem?_eq_some_iff.mp hm).1
 | some j' =>
  obtain ⟨h1, e1⟩ := List.getElem?_eq_some_iff.mp h
  obtain ⟨h2, e2⟩ := List.getElem?_eq_some_iff.mp e
  have := List.pairwise_iff_getElem.mp (posN_sorted Bs c) t (t + 1) h1 h2 (Nat.lt_succ_self _)
  simp only [Option.getD_some]; lia
theorem nxt_end {Bs : List Str} {c : Str} : nxt Bs c (posN Bs c).length = Bs.length := by
 unfold nxt; rw [List.getElem?_eq_none (Nat.le_refl _)]; rfl
theorem nxt_gap {Bs : List Str} {c : Str} {t j : Nat} (h : Bs[j]? = some c) (hl : ∀ u, u < t → ∀ j', (posN Bs c)[u]? = some j' → j' ≠ j) : nxt Bs c t ≤ j := by
 obtain ⟨u, hu, e⟩ := List.getElem_of_mem (posN_mem.mpr h)
 have e' : (posN Bs c)[u]? = some j := by rw [List.getElem?_eq_getElem hu, e]
 have hut : t ≤ u := by
  rcases Nat.lt_or_ge u t with q | q
  ·exact absurd rfl (hl u q j e')
  ·exact q
 unfold nxt
 rw [List.getElem?_eq_getElem (by lia)]
 simp only [Option.getD_some]
 rcases Nat.lt_or_ge t u with q | q
 ·have := List.pairwise_iff_getElem.mp (posN_sorted Bs c) t u (by lia) hu q
  lia
 ·have : t = u := by lia
  subst this; lia
theorem nxt_gap0 {Bs : List Str} {c : Str} {j : Nat} (h : Bs[j]? = some c) : nxt Bs c 0 ≤ j := nxt_gap h fun u q => absurd q (Nat.not_lt_zero _)
theorem nxt_gap1 {Bs : List Str} {c : Str} {t i j : Nat} (hi : (posN Bs c)[t]? = some i) (h : Bs[j]? = some c) (q : i < j) : nxt Bs c (t + 1) ≤ j := by
 refine nxt_gap h fun u hu j' hj' => ?_
 obtain ⟨h1, e1⟩ := List.getElem?_eq_some_iff.mp hi
 obtain ⟨h2, e2⟩ := List.getElem?_eq_some_iff.mp hj'
 rcases Nat.lt_or_ge u t with z | z
 ·have := List.pairwise_iff_getElem.mp (posN_sorted Bs c) u t h2 h1 z
  lia
 ·have : u = t := by lia
  subst this; lia
theorem valueAt_stored {K : Type} [DecidableEq K] (kvs : List (K × Value)) (k q : K) (v : Value) : valueAt (stored kvs k v) q = if q = k then some v else valueAt kvs q := by
 have hmap : ∀ l : List (K × Value), valueAt (l.map (fun kv => if kv.1 = k then (kv.1, v) else kv)) q = if q = k then (if l.any (fun kv => kv.1 = k) then some v else none) else valueAt l q := by
  intro l
  induction l with
  | nil => simp [valueAt]
  | cons a l ih =>
   obtain ⟨a1, a2⟩ := a
   unfold valueAt at ih ⊢
   rw [List.map_cons, List.find?_cons, List.find?_cons, List.any_cons]
   by_cases h1 : a1 = k
   ·subst h1
    by_cases h2 : q = a1
    ·subst h2; simp
    ·simp only [if_true, if_neg h2] at ih ⊢
     have : (decide (a1 = q)) = false := by simp; exact fun e => h2 e.symm
     simp only [this] at ih ⊢
     exact ih
   ·simp only [if_neg h1]
    by_cases h3 : a1 = q
    ·subst h3; simp [h1]
    ·have : (decide (a1 = q)) = false := by simpa using h3
     have h4 : (decide (a1 = k)) = false := by simpa using h1
     simp only [this, h4, Bool.false_or] at ih ⊢
     exact ih
 unfold stored
 by_cases ha : kvs.any (fun kv => kv.1 = k)
 ·rw [if_pos ha, hmap, if_pos ha]
 ·rw [if_neg ha]
  have hno : ∀ kv ∈ kvs, kv.1 ≠ k := fun kv hkv e => ha (List.any_eq_true.mpr ⟨kv, hkv, by simpa using e⟩)
  unfold valueAt
  rw [List.find?_append]
  by_cases hq : q = k
  ·subst hq
   have : kvs.find? (fun kv => decide (kv.1 = q)) = none := List.find?_eq_none.mpr fun x hx => by simpa using hno x hx
   rw [this]; simp
  ·rw [if_neg hq]
   have hk : (decide (k = q)) = false := by simp; exact fun e => hq e.symm
   cases e : kvs.find? (fun kv => decide (kv.1 = q)) with
   | none => simp [List.find?, hk]
   | some x => simp
structure RowD (A B : List Str) (alo blo bhi i jb : Nat) (kvs : List (Int × Value)) : Prop where
 hit : ∀ j : Nat, blo ≤ j → j < bhi → j < jb → A[i]? = B[j]? → ∃ t, valueAt kvs (j : Int) = some (.int (bsz A B alo blo i j : Nat) t)
 miss : ∀ q : Int, (∀ j : Nat, q = j → ¬ (blo ≤ j ∧ j < bhi ∧ j < jb ∧ A[i]? = B[j]?)) → valueAt kvs q = none
noncomputable def OldRow (A B : List Str) (alo blo bhi i : Nat) (kvs : List (Int × Value)) : Prop :=
 ∀ j : Nat, blo ≤ j → j < bhi → ∀ tk, ∃ t, (valueAt kvs ((j : Int) - 1)).getD (.int 0 tk) = .int ((if alo < i ∧ blo < j then bsz A B alo blo (i - 1) (j - 1) else 0 : Nat) : Int) t
theorem old_nil (A B : List Str) (alo blo bhi : Nat) : OldRow A B alo blo bhi alo [] := fun j _ _ tk => ⟨tk, by simp [valueAt]⟩
theorem rowD_nil (A B : List Str) (alo blo bhi i : Nat) : RowD A B alo blo bhi i 0 [] := ⟨fun j _ _ h => by lia, fun q _ => rfl⟩
theorem rowD_old {A B : List Str} {alo blo bhi i jb : Nat} {kvs : List (Int × Value)} (h : RowD A B alo blo bhi i jb kvs) (hb : bhi ≤ jb) (hb2 : bhi ≤ B.length) (hi : i < A.length) (ha : alo ≤ i) : OldRow A B alo blo bhi (i + 1) kvs := by
 intro j h1 h2 tk
 by_cases q : blo < j
 ·rw [if_pos ⟨by lia, q⟩, Nat.add_sub_cancel]
  have e1 : (j : Int) - 1 = ((j - 1 : Nat) : Int) := by lia
  by_cases e : A[i]? = B[j - 1]?
  ·obtain ⟨t, ht⟩ := h.hit (j - 1) (by lia) (by lia) (by lia) e
   rw [e1, ht]; exact ⟨t, rfl⟩
  ·have z : bsz A B alo blo i (j - 1) = 0 := by rw [bsz_rec hi (by lia) ha (by lia), if_neg e]
   rw [h.miss _ fun j' ej => by rintro ⟨_, _, _, e'⟩; rw [show j' = j - 1 by lia] at e'; exact e e', z]
   exact ⟨tk, rfl⟩
 ·rw [if_neg (by lia), h.miss _ fun j' ej => by lia]
  exact ⟨tk, rfl⟩
theorem rowD_skip {A B : List Str} {alo blo bhi i jb jb' : Nat} {kvs : List (Int × Value)} (h : RowD A B alo blo bhi i jb kvs) (hz : ∀ j, blo ≤ j → j < bhi → A[i]? = B[j]? → (j < jb ↔ j < jb')) : RowD A B alo blo bhi i jb' kvs :=
 ⟨fun j a b c e => h.hit j a b ((hz j a b e).mpr c) e, fun q hq => h.miss q fun j ej => by rintro ⟨a, b, c, e⟩; exact hq j ej ⟨a, b, (hz j a b e).mp c, e⟩⟩
theorem rowD_put {A B : List Str} {alo blo bhi i j : Nat} {kvs : List (Int × Value)} (h : RowD A B alo blo bhi i j kvs) (h1 : blo ≤ j) (h2 : j < bhi) (e : A[i]? = B[j]?) (t : Tok) : RowD A B alo blo bhi i (j + 1) (stored kvs (j : Int) (.int (bsz A B alo blo i j : Nat) t)) := by
 refine ⟨fun j' a b c e' => ?_, fun q hq => ?_⟩
 ·rw [valueAt_stored]
  by_cases q : j' = j
  ·subst q; rw [if_pos rfl]; exact ⟨t, rfl⟩
  ·rw [if_neg (by lia)]; exact h.hit j' a b (by lia) e'
 ·rw [valueAt_stored]
  have hne : q ≠ (j : Int) := fun ej => hq j ej ⟨h1, h2, by lia, e⟩
  rw [if_neg hne]
  exact h.miss q fun j' ej => by rintro ⟨a, b, c, e'⟩; exact hq j' ej ⟨a, b, by lia, e'⟩
theorem put_val {A B : List Str} {alo blo i j : Nat} (hi : i < A.length) (hj : j < B.length) (ha : alo ≤ i) (hb : blo ≤ j) (e : A[i]? = B[j]?) : ((if alo < i ∧ blo < j then bsz A B alo blo (i - 1) (j - 1) else 0 : Nat) : Int) + 1 = ((bsz A B alo blo i j : Nat) : Int) := by
 rw [bsz_rec hi hj ha hb, if_pos e]; rfl
theorem bsz_bound {A B : List Str} {alo blo i j : Nat} (hi : i < A.length) (hj : j < B.length) (ha : alo ≤ i) (hb : blo ≤ j) : bsz A B alo blo i j + alo ≤ i + 1 ∧ bsz A B alo blo i j + blo ≤ j + 1 := by
 have := (bsz_iff hi hj ha hb).mp (Nat.le_refl (bsz A B alo blo i j))
 lia
theorem dp_vis {A B : List Str} {alo blo bhi i i' jb jb' k bi bj : Nat} (h : DpInv A B alo blo bhi i jb k bi bj) (hv : ∀ a b, Vis alo blo bhi i jb a b ↔ Vis alo blo bhi i' jb' a b) : DpInv A B alo blo bhi i' jb' k bi bj := by
 refine ⟨?_, fun a b v => h.top a b ((hv a b).mpr v), fun a b v => h.first a b ((hv a b).mpr v)⟩
 rcases h.src with s | ⟨a, b, v, r⟩
 ·exact .inl s
 ·exact .inr ⟨a, b, (hv a b).mp v, r⟩
theorem dp_zero {A B : List Str} {alo blo bhi i k bi bj : Nat} (h : DpInv A B alo blo bhi i blo k bi bj) : DpInv A B alo blo bhi i 0 k bi bj := dp_vis h fun a b => by
 constructor
 ·rintro ⟨p, q, r, s⟩; exact ⟨p, q, r, s.imp id fun z => absurd z.2 (Nat.not_lt.mpr q)⟩
 ·rintro ⟨p, q, r, s⟩; exact ⟨p, q, r, s.imp id fun z => absurd z.2 (Nat.not_lt_zero _)⟩
theorem vis_all {alo blo bhi i jb jb' a b : Nat} (h1 : bhi ≤ jb) (h2 : bhi ≤ jb') : Vis alo blo bhi i jb a b ↔ Vis alo blo bhi i jb' a b := by
 constructor
 ·rintro ⟨p, q, r, s⟩; exact ⟨p, q, r, s.imp id fun z => ⟨z.1, Nat.lt_of_lt_of_le r h2⟩⟩
 ·rintro ⟨p, q, r, s⟩; exact ⟨p, q, r, s.imp id fun z => ⟨z.1, Nat.lt_of_lt_of_le r h1⟩⟩
theorem bsz_ne {A B : List Str} {alo blo i j : Nat} (hi : i < A.length) (hj : j < B.length) (ha : alo ≤ i) (hb : blo ≤ j) (e : ¬ A[i]? = B[j]?) : bsz A B alo blo i j = 0 := by
 rw [bsz_rec hi hj ha hb, if_neg e]
end
section
theorem pick10 (vs : List Value) : kms_pick vs none (some 10) = vs.take 10 := by
 unfold kms_pick kms_lo kms_hi
 simp only [List.drop_zero, Nat.sub_zero]
 rw [if_neg (by decide), show Int.toNat 10 = 10 from rfl]
 by_cases h : vs.length < 10
 ·rw [List.take_of_length_le (by lia), List.take_of_length_le (by lia)]
 ·rw [Nat.min_eq_left (by lia)]
theorem slice10 {prog : Program} {w : World} {A : Around} {E : Value → Shared → Prop} {h₀ : Heap} {L : Addr} {news : List (Addr × Obj)} {value slice : PySem.Expr} {l : Addr} {v : List Value} {t : Tok} {m : Str → Option Value} {Q : Value → Shared → Prop} {g : Heap} {s : Shared} {tk : Nat}
  (F : Fr h₀ L g m) (N : News h₀ L g news) (la : h₀.IsList l v.toArray) (hz : v.length ≤ 10000)
  (hs : subscripted slice false (.ref l) (.ref g.objs.size) = operate [.ref g.objs.size, .ref l] (getItem (.ref l) (.ref g.objs.size))) (ht : ∀ r, letTemporaryGo value (.ref l) r = pure ())
  (h : ∀ D h', Fr h₀ L h' m → News h₀ L h' ((D, listOf (v.take 10).toArray 0) :: news) → (∀ p ∈ news, p.1 < D) → Q (.ref D) { s with heap := h', toks := tk }) :
  wpAny (model prog w) A (subscriptTail value slice (.ref l) (.ref g.objs.size)) Q E { s with heap := g.push { cls := .type "slice", data := .fields #[.none, .int 10 t, .none] }, toks := tk } := by
 refine kms_slice_lit (s := { s with heap := g, toks := tk }) (zs := v.take 10) F N (la.at fun o e => F.keep _ _ e) .none (.int _ _) (pick10 v) h hs ht ?_
 rw [sizeLine_eq, List.size_toArray]; lia
theorem ints_take {vs : List Value} {ns : List Int} (h : IntsAre vs ns) : ∀ n, IntsAre (vs.take n) (ns.take n) := by
 induction h with
 | nil => intro n; rw [List.take_nil, List.take_nil]; exact .nil
 | cons y t _ ih =>
  intro n
  cases n with
  | zero => exact .nil
  | succ n => exact .cons y t (ih n)
theorem ints_appendZ {vs us : List Value} {ns ms : List Int} (h : IntsAre vs ns) (k : IntsAre us ms) : IntsAre (vs ++ us) (ns ++ ms) := by
 induction h with
 | nil => exact k
 | cons y t _ ih => exact .cons y t ih
theorem ints6 {t1 t2 t3 t4 t5 t6 : Tok} : IntsAre [.int 2 t1, .int 0 t2, .int 2 t3, .int 1 t4, .int 3 t5, .int 1 t6] [2, 0, 2, 1, 3, 1] := .cons _ _ (.cons _ _ (.cons _ _ (.cons _ _ (.cons _ _ (.cons _ _ .nil)))))
noncomputable def keepN : Value → Bool
 | .str c _ => isNm c
 | _ => false
theorem filter_nm {vs : List Value} {xs : List Str} (h : StrsAre vs xs) : StrsAre (vs.filter keepN) (xs.filter isNm) := by
 induction h with
 | nil => exact .nil
 | cons y t _ ih =>
  rw [List.filter_cons, List.filter_cons]
  show StrsAre (if isNm y = true then _ else _) _
  by_cases e : isNm y = true
  ·rw [if_pos e, if_pos e]; exact .cons _ _ ih
  ·rw [if_neg e, if_neg e]; exact ih
theorem pieceS_ok (x : Int) : isPiece (pieceS x) := by
 unfold pieceS
 split
 ·exact .inl (.inl rfl)
 ·split
  ·exact .inl (.inr (.inl rfl))
  ·split
   ·exact .inl (.inr (.inr rfl))
   ·split
    ·exact .inr (.inl rfl)
    ·exact .inr (.inr rfl)
noncomputable def RowsOk (a : List Str × List Str) : Prop := a.1.length ≤ 6 ∧ a.2.length ≤ 6 ∧ (∀ p ∈ a.1, isPiece p) ∧ (∀ p ∈ a.2, isPiece p)
theorem rowStep_ok {a : List Str × List Str} (h : RowsOk a) (x : Int) : RowsOk (rowStep a x) := by
 obtain ⟨h1, h2, h3, h4⟩ := h
 have app : ∀ {l : List Str}, (∀ p ∈ l, isPiece p) → ∀ p ∈ l ++ [pieceS x], isPiece p := fun hl p hp => by
  rcases List.mem_append.mp hp with hp | hp
  ·exact hl p hp
  ·rw [List.mem_singleton.mp hp]; exact pieceS_ok x
 unfold rowStep
 split
 ·split
  ·exact ⟨by simp; lia, h2, app h3, h4⟩
  ·exact ⟨h1, h2, h3, h4⟩
 ·split
  ·exact ⟨h1, by simp; lia, h3, app h4⟩
  ·exact ⟨h1, h2, h3, h4⟩
theorem rowsS_ok (ns : List Int) : RowsOk (rowsS ns) := by
 unfold rowsS
 have key : ∀ (l : List Int) (a : List Str × List Str), RowsOk a → RowsOk (l.foldl rowStep a) := by
  intro l
  induction l with
  | nil => intro a h; exact h
  | cons x l ih => intro a h; exact ih _ (rowStep_ok h x)
 exact key ns _ ⟨by simp, by simp, fun _ h => (nomatch h), fun _ h => (nomatch h)⟩
theorem nm_no {x : Str} {t : Tok} (h : ([Str.ofString "", Str.ofString "."].any fun y => y == x) = true) : keepN (.str x t) = false := by
 show isNm x = false
 unfold isNm
 rcases up_in h with rfl | rfl <;> simp
theorem nm_yes {x : Str} {t : Tok} (h : ([Str.ofString "", Str.ofString "."].any fun y => y == x) = false) : keepN (.str x t) = true := by
 show isNm x = true
 have := up_out h
 unfold isNm
 simp only [not_or] at this
 simp [this.1, this.2]
theorem nm_eq {x : Str} {t : Tok} : (![Str.ofString "", Str.ofString "."].any fun y => y == x) = keepN (.str x t) := by
 cases h : ([Str.ofString "", Str.ofString "."].any fun y => y == x) with
 | true => rw [nm_no h]; rfl
 | false => rw [nm_yes h]; rfl
end
section
theorem no_tabs (P : Params) : noTabs (KW P) = true := by kernel_rfl
theorem cx_ghost {w : World} {h : Heap} {mean : ExcName → Option Value} {mg mb : Str → Option Value} (X : (KW w.params).In h) (T : Top qw looseN mean mg mb h) (hT : TabsAt [(396, 394)] h) : Cx w (ghostOf h [(396, 394)]) :=
 ⟨ghost_K hT X (no_tabs _), mg, mb, ⟨ghost_ns hT T.g, ghost_ns hT T.b, let ⟨mc, a, r⟩ := T.nolimit; ⟨mc, ghost_ns hT a, r⟩, T.builtins, T.free⟩⟩
theorem enterL {w : World} {A : Around} {R : Result → Shared → Prop} {s : Shared} {name qual : Str} {params : Arguments} {body : Expr} {scope : Scope} {pm ctv : Value} {c' f : Addr} {args : Args} {n : Nat} (binds : List (Str × Value))
  (C : Cx w s.heap) (ho : s.heap.get? f = some (kla_obj name qual params body scope [] pm c' ctv)) (hcd : s.heap.CodeRec (.ref c') qual) (hroom : Room A (n + 1))
  (hbind : bindArgs (kla_fn name qual params body scope [] pm (.ref c') ctv) args = pure binds) (hloc : ∀ y ∈ binds, scope.names.lookup y.1 = some .local)
  (h : ∀ h₁, Fr s.heap s.heap.objs.size h₁ (fun x => binds.reverse.lookup x) → News s.heap s.heap.objs.size h₁ [] → Room (A.deeper (envX qual scope s.heap.objs.size f (.ref c') [])) n →
   wpAny (model pw w) (A.deeper (envX qual scope s.heap.objs.size f (.ref c') [])) (eval body (envX qual scope s.heap.objs.size f (.ref c') [])) (fun v s' => R (.ok (.ret v)) s') (fun _ _ => False) { s with heap := h₁, toks := s.toks + binds.length })
  (hco : scope.isCoroutine = false) (hgen : scope.isGenerator = false) (hk : scope.kind = .function) (hcell : ∀ x ∈ scope.names, x.2 ≠ .cell) : codeAny (model pw w) A (.call (.ref f) args) R s := by
 obtain ⟨mg, mb, T⟩ := C.T
 refine kla_callFunE hroom.depthLt ho rfl hco hgen rfl hcd ?_
 rw [hbind]
 refine wpAny_pure (wpAny_newFunctionEnv hcell hloc (fun h₁ hns hsb => ⟨T.nolimit.fresh _ hsb, ?_⟩) hk)
 show codeAny _ _ (.expr body (envX qual scope s.heap.objs.size f (.ref c') [])) _ _
 have hk₁ : ∀ b o, s.heap.get? b = some o → h₁.get? b = some o := fun b o e => hsb.extBut b o (Nat.ne_of_lt (Heap.lt_size e)) (Heap.get?_push_of_some _ e)
 exact kla_codeExpr (wpAny_mono (h h₁ ⟨hns, hk₁, Nat.le_refl _⟩ News.nil hroom.deeper) (fun _ _ x => x) fun _ _ x => x.elim)
end
local macro_rules | `(tactic| walk_at "my back") => `(tactic| (intros; (try dsimp only at *); (rename Keeps _ _ => zK1); (rename Heap.get? _ _ = none => zn1); (rename Heap.get? _ _ = some _ => ze1); (obtain ⟨zF1, zN1, zo1⟩ := news_back (by walk_at "a") (by walk_at "a") zK1 zn1 ze1); clear zn1 ze1 zK1; k_sweep))
local macro_rules | `(tactic| k_all) => `(tactic| first | exact List.forall_mem_nil _ | walk_at "a" | (refine' List.forall_mem_cons.mpr ⟨?za, ?zb⟩; (case za => k_ne); (case zb => k_all)))
local macro_rules | `(tactic| walk_at "my sub") => `(tactic| first | exact List.forall_mem_nil _ | (refine' List.forall_mem_cons.mpr ⟨?za, ?zb⟩; (case za => walk_at "my memA"); (case zb => walk_at "my sub")) | (intro p hp; walk_at "my memA"))
local macro_rules | `(tactic| walk_at "my memA") => `(tactic| first | exact List.Mem.head _ | walk_at "a" | (refine' List.mem_cons_of_mem _ ?_; walk_at "my memA"))
local macro_rules | `(tactic| walk_at "my led") => `(tactic| exact ⟨_, News.get (by walk_at "a") (by walk_at "my memA"), rfl, _, rfl⟩)
local macro_rules | `(tactic| walk_at "call builtin:len") => `(tactic| (k_here; (with_reducible show wpAny _ _ (call (Value.builtin "len") [Value.ref _]) _ _ _); k_dflt (refine' len_lst ?zN ?zm ?za ?_; walk_at "my nm"; (case za => walk_at "a"))))
section
noncomputable def WinEnd (h₀ : Heap) (L la lb : Addr) (xs ys : List (Int × Int × Int)) (s : Shared) (f : Flow) (s' : Shared) : Prop :=
 f = .next ∧ ∃ h tk m its1 k1 its2 k2 add, s' = { s with heap := h, toks := tk } ∧ Fr h₀ L h m ∧ News h₀ L h ((lb, listOf its2 k2) :: (la, listOf its1 k1) :: add) ∧ m (Str.ofString "ahead") = some (.ref la) ∧ m (Str.ofString "behind") = some (.ref lb) ∧ T3s add its1.toList xs ∧ T3s add its2.toList ys
inductive WinJ (h₀ : Heap) (la lb D1 D2 D3 D4 : Addr) (o1 o2 o3 o4 o5 : Obj) (vs1 vs2 vs3 vs4 : List Value) (add0 : List (Addr × Obj)) (A0 B0 : List Str) (alo ahi blo bhi : Nat) (k : Nat) (m : Str → Option Value) (news : List (Addr × Obj)) : Prop
 | mk (its1 : Array Value) (k1 : Nat) (its2 : Array Value) (k2 : Nat) (add : List (Addr × Obj)) (e0 : news = (lb, listOf its2 k2) :: (la, listOf its1 k1) :: (D4, LCg.lst vs4) :: (D3, LCg.lst vs3) :: (D2, LCg.lst vs2) :: (D1, LCg.lst vs1) :: (h₀.objs.size + 1 + 1 + 1 + 1 + 1, o5) :: (h₀.objs.size + 1 + 1 + 1 + 1, o4) :: (h₀.objs.size + 1 + 1 + 1, o3) :: (h₀.objs.size + 1 + 1, o2) :: (h₀.objs.size + 1, o1) :: add) (e1 : (∀ p ∈ add0, p ∈ add)) (e2 : (∀ p ∈ add, p.1 ≠ la)) (e3 : (∀ p ∈ add, p.1 ≠ lb)) (e4 : T3s add its1.toList (((0 : Int), (alo : Int), (blo : Int)) :: gridP (eF A0 B0 alo ahi blo bhi) (bhi - blo) k 0)) (e5 : T3s add its2.toList (((0 : Int), (alo : Int), (blo : Int)) :: gridP (eB A0 B0 alo ahi blo bhi) (bhi - blo) k 0)) (e6 : its1.size ≤ 1 + 7 * k) (e7 : its2.size ≤ 1 + 7 * k) (e8 : m (Str.ofString "ahead") = some (.ref la)) (e9 : m (Str.ofString "behind") = some (.ref lb)) (e10 : m (Str.ofString "firsts") = some (.ref D1)) (e11 : m (Str.ofString "lasts") = some (.ref D2)) (e12 : m (Str.ofString "ups") = some (.ref D3)) (e13 : m (Str.ofString "others") = some (.ref D4)) : WinJ h₀ la lb D1 D2 D3 D4 o1 o2 o3 o4 o5 vs1 vs2 vs3 vs4 add0 A0 B0 alo ahi blo bhi k m news
inductive WinK (h₀ : Heap) (la lb D1 D2 D3 D4 : Addr) (o1 o2 o3 o4 o5 : Obj) (vs1 vs2 vs3 vs4 : List Value) (add0 : List (Addr × Obj)) (A0 B0 : List Str) (alo ahi blo bhi : Nat) (i : Nat) (I : Addr) (oI : Obj) (j : Nat) (m : Str → Option Value) (news : List (Addr × Obj)) : Prop
 | mk (its1 : Array Value) (k1 : Nat) (its2 : Array Value) (k2 : Nat) (add : List (Addr × Obj)) (t : Tok) (e0 : news = (I, oI) :: (lb, listOf its2 k2) :: (la, listOf its1 k1) :: (D4, LCg.lst vs4) :: (D3, LCg.lst vs3) :: (D2, LCg.lst vs2) :: (D1, LCg.lst vs1) :: (h₀.objs.size + 1 + 1 + 1 + 1 + 1, o5) :: (h₀.objs.size + 1 + 1 + 1 + 1, o4) :: (h₀.objs.size + 1 + 1 + 1, o3) :: (h₀.objs.size + 1 + 1, o2) :: (h₀.objs.size + 1, o1) :: add) (e1 : (∀ p ∈ add0, p ∈ add)) (e2 : (∀ p ∈ add, p.1 ≠ la)) (e3 : (∀ p ∈ add, p.1 ≠ lb)) (e4 : (∀ p ∈ add, p.1 ≠ I)) (e5 : T3s add its1.toList (((0 : Int), (alo : Int), (blo : Int)) :: gridP (eF A0 B0 alo ahi blo bhi) (bhi - blo) i j)) (e6 : T3s add its2.toList (((0 : Int), (alo : Int), (blo : Int)) :: gridP (eB A0 B0 alo ahi blo bhi) (bhi - blo) i j)) (e7 : its1.size ≤ 1 + 7 * i + j) (e8 : its2.size ≤ 1 + 7 * i + j) (e9 : m (Str.ofString "i") = some (.int ((alo : Int) + (i : Int)) t)) (e10 : m (Str.ofString "ahead") = some (.ref la)) (e11 : m (Str.ofString "behind") = some (.ref lb)) (e12 : m (Str.ofString "firsts") = some (.ref D1)) (e13 : m (Str.ofString "lasts") = some (.ref D2)) (e14 : m (Str.ofString "ups") = some (.ref D3)) (e15 : m (Str.ofString "others") = some (.ref D4)) : WinK h₀ la lb D1 D2 D3 D4 o1 o2 o3 o4 o5 vs1 vs2 vs3 vs4 add0 A0 B0 alo ahi blo bhi i I oI j m news
theorem wA9 {a b l : Nat} (k : Nat) (h : a ≤ l) (h2 : l ≤ 6) (h3 : 6 ≤ k) : a ≤ k + b := Nat.le_trans h (Nat.le_trans h2 (Nat.le_trans h3 (Nat.le_add_right _ _)))
theorem wB9 {s i d : Nat} (h : s ≤ 1 + 7 * i + d) (hd : d ≤ 7) : s ≤ 1 + 7 * (i + 1) := Nat.le_trans h (by rw [Nat.mul_succ, ← Nat.add_assoc]; exact Nat.add_le_add_left hd _)
theorem wC9 {s i j : Nat} (h : s ≤ 1 + 7 * i + j) (hi : i < 10) (hj : j < 10) : s ≤ 16777216 := by lia
noncomputable section
namespace cwin_for
noncomputable def zP (w : World) (d0 u0 : Nat) (fr0 : Option (List Env)) (gd0 : Option (List Code)) (s : Shared) (h₀ : Heap) (m : Str → Option Value) (la lb Ta Tb D1 D2 D3 D4 : Addr) (o1 o2 o3 o4 o5 : Obj) (vs1 vs2 vs3 vs4 : List Value) (add0 : List (Addr × Obj)) (A0 B0 r0 r1 : List Str) (alo ahi blo bhi : Nat) (t1 t2 t3' t4 u1 u2 u3 u4 u5 u6 : Tok) : Prop := ∀ (C : Cx w h₀) (R : Room (Around.deeper { depth := d0, frames := fr0, guards := gd0, units := u0 } (envOfC (Str.ofString "_law_window") (fScope (nth pw.main.body 27)) h₀.objs.size 385 (Value.ref 384))) 11) (F : Fr h₀ h₀.objs.size s.heap m) (N : News h₀ h₀.objs.size s.heap ((lb, listOf #[.ref Tb] 0) :: (la, listOf #[.ref Ta] 0) :: (D4, LCg.lst vs4) :: (D3, LCg.lst vs3) :: (D2, LCg.lst vs2) :: (D1, LCg.lst vs1) :: (h₀.objs.size + 1 + 1 + 1 + 1 + 1, o5) :: (h₀.objs.size + 1 + 1 + 1 + 1, o4) :: (h₀.objs.size + 1 + 1 + 1, o3) :: (h₀.objs.size + 1 + 1, o2) :: (h₀.objs.size + 1, o1) :: add0)) (d5 : o5.data = Data.cell (some (.int bhi t4))) (d4 : o4.data = Data.cell (some (.int blo t3'))) (d3 : o3.data = Data.cell (some (.int ahi t2))) (d2 : o2.data = Data.cell (some (.int alo t1))) (hTa : (Ta, t3 (0, alo, blo) u1 u2 u3) ∈ add0) (hTb : (Tb, t3 (0, alo, blo) u4 u5 u6) ∈ add0) (q1 : StrsAre vs1 ((List.range (ahi - alo)).map fun k => textS r0 ((alo + k : Nat) : Int) ahi)) (q2 : StrsAre vs2 ((List.range (bhi - blo)).map fun k => textS r1 ((blo + k : Nat) : Int) bhi)) (q3 : Lss add0 vs3 ((List.range (ahi - alo)).map fun k => ((A0.take (alo + k + 1)).drop alo).reverse)) (q4 : Lss add0 vs4 ((List.range (bhi - blo)).map fun k => ((B0.take (blo + k + 1)).drop blo).reverse)) (m1 : m (Str.ofString "ahead") = some (.ref la)) (m2 : m (Str.ofString "behind") = some (.ref lb)) (m3 : m (Str.ofString "firsts") = some (.ref D1)) (m4 : m (Str.ofString "lasts") = some (.ref D2)) (m5 : m (Str.ofString "ups") = some (.ref D3)) (m6 : m (Str.ofString "others") = some (.ref D4)) (n1 : LCg.Off1 la [(D4, LCg.lst vs4), (D3, LCg.lst vs3), (D2, LCg.lst vs2), (D1, LCg.lst vs1), (h₀.objs.size + 1 + 1 + 1 + 1 + 1, o5), (h₀.objs.size + 1 + 1 + 1 + 1, o4), (h₀.objs.size + 1 + 1 + 1, o3), (h₀.objs.size + 1 + 1, o2), (h₀.objs.size + 1, o1)]) (n2 : LCg.Off1 lb [(la, LCg.lst vs4), (D4, LCg.lst vs4), (D3, LCg.lst vs3), (D2, LCg.lst vs2), (D1, LCg.lst vs1), (h₀.objs.size + 1 + 1 + 1 + 1 + 1, o5), (h₀.objs.size + 1 + 1 + 1 + 1, o4), (h₀.objs.size + 1 + 1 + 1, o3), (h₀.objs.size + 1 + 1, o2), (h₀.objs.size + 1, o1)]) (n3 : ∀ p ∈ add0, p.1 ≠ la) (n4 : ∀ p ∈ add0, p.1 ≠ lb) (g0 : RowOk r0 A0) (g1 : RowOk r1 B0) (ha : alo < ahi) (ha2 : ahi ≤ A0.length) (hb : blo < bhi) (hb2 : bhi ≤ B0.length), wpAny (model pw w) (Around.deeper { depth := d0, frames := fr0, guards := gd0, units := u0 } (envOfC (Str.ofString "_law_window") (fScope (nth pw.main.body 27)) h₀.objs.size 385 (Value.ref 384))) (exec (nth (bodyOf (nth pw.main.body 27)) 6) (envOfC (Str.ofString "_law_window") (fScope (nth pw.main.body 27)) h₀.objs.size 385 (Value.ref 384)))
   (WinEnd h₀ h₀.objs.size la lb (((0 : Int), (alo : Int), (blo : Int)) :: grid (eF A0 B0 alo ahi blo bhi) (ahi - alo) (bhi - blo)) (((0 : Int), (alo : Int), (blo : Int)) :: grid (eB A0 B0 alo ahi blo bhi) (ahi - alo) (bhi - blo)) s) (fun _ _ => False) s
noncomputable def zT (x : YY) : Prop := zP (x 1 0) (x 0 1) (x 0 2) (x 10 3) (x 11 4) (x 5 5) (x 2 6) (x 6 7) (x 0 8) (x 0 9) (x 0 10) (x 0 11) (x 0 12) (x 0 13) (x 0 14) (x 0 15) (x 3 16) (x 3 17) (x 3 18) (x 3 19) (x 3 20) (x 4 21) (x 4 22) (x 4 23) (x 4 24) (x 7 25) (x 13 26) (x 13 27) (x 13 28) (x 13 29) (x 0 30) (x 0 31) (x 0 32) (x 0 33) (x 0 34) (x 0 35) (x 0 36) (x 0 37) (x 0 38) (x 0 39) (x 0 40) (x 0 41) (x 0 42) (x 0 43)
noncomputable def zC := pickY zT
@[irreducible] def w : World := zC 1 0
def d0 : Nat := zC 0 1
def u0 : Nat := zC 0 2
@[irreducible] def fr0 : Option (List Env) := zC 10 3
@[irreducible] def gd0 : Option (List Code) := zC 11 4
@[irreducible] def s : Shared := zC 5 5
@[irreducible] def h₀ : Heap := zC 2 6
def m : Str → Option Value := zC 6 7
def la : Addr := zC 0 8
def lb : Addr := zC 0 9
def Ta : Addr := zC 0 10
def Tb : Addr := zC 0 11
def D1 : Addr := zC 0 12
def D2 : Addr := zC 0 13
def D3 : Addr := zC 0 14
def D4 : Addr := zC 0 15
@[irreducible] def o1 : Obj := zC 3 16
@[irreducible] def o2 : Obj := zC 3 17
@[irreducible] def o3 : Obj := zC 3 18
@[irreducible] def o4 : Obj := zC 3 19
@[irreducible] def o5 : Obj := zC 3 20
@[irreducible] def vs1 : List Value := zC 4 21
@[irreducible] def vs2 : List Value := zC 4 22
@[irreducible] def vs3 : List Value := zC 4 23
@[irreducible] def vs4 : List Value := zC 4 24
@[irreducible] def add0 : List (Addr × Obj) := zC 7 25
@[irreducible] def A0 : List Str := zC 13 26
@[irreducible] def B0 : List Str := zC 13 27
@[irreducible] def r0 : List Str := zC 13 28
@[irreducible] def r1 : List Str := zC 13 29
def alo : Nat := zC 0 30
def ahi : Nat := zC 0 31
def blo : Nat := zC 0 32
def bhi : Nat := zC 0 33
def t1 : Tok := zC 0 34
def t2 : Tok := zC 0 35
def t3' : Tok := zC 0 36
def t4 : Tok := zC 0 37
def u1 : Tok := zC 0 38
def u2 : Tok := zC 0 39
def u3 : Tok := zC 0 40
def u4 : Tok := zC 0 41
def u5 : Tok := zC 0 42
def u6 : Tok := zC 0 43
theorem zA (h : zP w d0 u0 fr0 gd0 s h₀ m la lb Ta Tb D1 D2 D3 D4 o1 o2 o3 o4 o5 vs1 vs2 vs3 vs4 add0 A0 B0 r0 r1 alo ahi blo bhi t1 t2 t3' t4 u1 u2 u3 u4 u5 u6) : ∀ y, zT y := by with_unfolding_all exact pickY_spec zT h
namespace zB
noncomputable def zQ : {T : Nat → Addr → Obj → Heap → Nat → Tok → Str → Addr → (List Value) → Nat → Heap → Nat → Nat → Tok → Addr → Obj → (Str → Option Value) → Heap → Nat → (Array Value) → Nat → (Array Value) → Nat → (List (Addr × Obj)) → Tok → Tok → Str → Addr → (List Value) → Nat → Prop // (∀ i I oI zy10 zy11 tx1 x1 u1 us1 nu1 zy28 zy29 j t I2 oI2 m h tk its1 k1 its2 k2 add ti tx2 x2 u2 us2 nu2, T i I oI zy10 zy11 tx1 x1 u1 us1 nu1 zy28 zy29 j t I2 oI2 m h tk its1 k1 its2 k2 add ti tx2 x2 u2 us2 nu2) → zP w d0 u0 fr0 gd0 s h₀ m la lb Ta Tb D1 D2 D3 D4 o1 o2 o3 o4 o5 vs1 vs2 vs3 vs4 add0 A0 B0 r0 r1 alo ahi blo bhi t1 t2 t3' t4 u1 u2 u3 u4 u5 u6} := ⟨_, by
 intro zh
 intro C R F N d5 d4 d3 d2 hTa hTb q1 q2 q3 q4 m1 m2 m3 m4 m5 m6 n1 n2 n3 n4 g0 g1 ha ha2 hb hb2
 have fa := g0.few
 have fb := g1.few
 have nab : la ≠ lb := n2.1
 replace n2 := n2.2
 w_on
 w_strict (
  have X := Cx.X C
  obtain ⟨mg, mb, T⟩ := Cx.T C
  show wpAny _ _ (exec (Stmt.For _ _ _ _ _) _) _ _ _
  refine wpAny_For ?_ (by intro _; rfl)
  walk_at "my steps"
  refine' iter_range (L := h₀.objs.size) (n := ahi - alo) rfl rfl ?hr ?hsm ?hn (WinJ h₀ la lb D1 D2 D3 D4 o1 o2 o3 o4 o5 vs1 vs2 vs3 vs4 add0 A0 B0 alo ahi blo bhi) ?F ?N ?hj ?hgo ?turn ?done
  case hr => walk_at "a"
  case hsm => exact small_one (by lia) (by lia) (by lia) (by lia)
  case hn => rw [rangeSize_nat]; exact congrArg _ (Int.toNat_sub _ _)
  case F => walk_at "a"
  case N => walk_at "a"
  case hj => exact ⟨_, _, _, _, _, rfl, fun _ h => h, n3, n4, .cons _ _ _ _ ⟨_, _, _, _, rfl, hTa⟩ (by simp [gridP, grid]; exact .nil), .cons _ _ _ _ ⟨_, _, _, _, rfl, hTb⟩ (by simp [gridP, grid]; exact .nil), by simp, by simp, m1, m2, m3, m4, m5, m6⟩
  case hgo => exact fun _ _ _ _ q => go_name q
  case done =>
   rintro m news h tk ⟨its1, k1, its2, k2, add, rfl, hs, z1, z2, T1, T2, -, -, f1, f2, -⟩ F N
   refine' ⟨rfl, h, tk, m, its1, k1, its2, k2, add, rfl, F, news_sub N ?_, f1, f2, by simpa only [gridP_zero] using T1, by simpa only [gridP_zero] using T2⟩
   walk_at "my sub"
  case turn =>
   clear m1 m2 m3 m4 m5 m6 n3 n4
   rintro i t I oI m news h tk hi ⟨its1, k1, its2, k2, add, rfl, hs, z1, z2, T1, T2, y1, y2, m1, m2, m3, m4, m5, m6⟩ hne - F N
   obtain ⟨tx1, hx1⟩ := strs_get q1 (k := i) (x := textS r0 ((alo + i : Nat) : Int) ahi) (by rw [List.getElem?_map, List.getElem?_range hi]; rfl)
   have gp := g0.text (alo + i) ahi (Nat.add_lt_of_lt_sub' hi) ha2
   have gp' : Txt.startswith (textS r0 ((alo + i : Nat) : Int) ahi) (Str.ofString "/") = true ∧ (textS r0 ((alo + i : Nat) : Int) ahi).length ≤ 1000 ∧ nms (textS r0 ((alo + i : Nat) : Int) ahi) = (A0.take ahi).drop (alo + i) := ⟨gp.1, gp.2.1, gp.2.2.1⟩
   clear gp
   generalize textS r0 ((alo + i : Nat) : Int) ahi = x1 at hx1 gp'
   obtain ⟨v3, hv3, hu3⟩ := q3.getR (k := i) (by rw [List.getElem?_map, List.getElem?_range hi]; rfl)
   obtain ⟨u1, us1, nu1, rfl, hu1, su1⟩ := hu3.open
   have zu1 : (((A0.take (alo + i + 1)).drop alo).reverse).length ≤ 1000 := by simp; exact wA9 1000 (Nat.min_le_right _ _) fa (by decide)
   have hk1 : (alo : Int) + (i : Int) - (alo : Int) = (i : Int) := by lia
   have zi : i < 10 := Nat.lt_of_lt_of_le hi (Nat.le_trans (Nat.sub_le _ _) (Nat.le_trans ha2 (Nat.le_trans fa (by decide))))
   clear hu3 q1 q3
   have nIb : lb ≠ I := hne.1
   have nIa : la ≠ I := hne.2.1
   walk_at "my steps"
   refine wpAny_For ?_ (by intro _; rfl)
   walk_at "my steps"
   refine' iter_range (L := h₀.objs.size) (n := bhi - blo) rfl rfl ?hr ?hsm ?hn (WinK h₀ la lb D1 D2 D3 D4 o1 o2 o3 o4 o5 vs1 vs2 vs3 vs4 add0 A0 B0 alo ahi blo bhi i I oI) ?F ?N ?hj ?hgo ?turn ?done
   case hr => walk_at "a"
   case hsm => exact small_one (by lia) (by lia) (by lia) (by lia)
   case hn => rw [rangeSize_nat]; exact congrArg _ (Int.toNat_sub _ _)
   case F => walk_at "a"
   case N => walk_at "a"
   case hj => exact ⟨_, _, _, _, _, _, rfl, hs, z1, z2, allNe_iff.mp hne.2.2.2.2.2.2.2.2.2.2.2, T1, T2, y1, y2, rfl, m1, m2, m3, m4, m5, m6⟩
   case hgo => exact fun _ _ _ _ q => go_name q
   case done =>
    rintro m news h tk ⟨its1, k1, its2, k2, add, t, rfl, hs, z1, z2, z3, T1, T2, y1, y2, f0, f1, f2, f3, f4, f5, f6⟩ F N
    walk_at "my steps"
    refine' fnext (news' := (lb, listOf its2 k2) :: (la, listOf its1 k1) :: (D4, LCg.lst vs4) :: (D3, LCg.lst vs3) :: (D2, LCg.lst vs2) :: (D1, LCg.lst vs1) :: (h₀.objs.size + 1 + 1 + 1 + 1 + 1, o5) :: (h₀.objs.size + 1 + 1 + 1 + 1, o4) :: (h₀.objs.size + 1 + 1 + 1, o3) :: (h₀.objs.size + 1 + 1, o2) :: (h₀.objs.size + 1, o1) :: add) (by walk_at "a") (by walk_at "a") ?wj ?ws ?wn
    case ws => walk_at "my sub"
    case wn =>
     simp only [AllNe]
     exact ⟨hne.1, hne.2.1, hne.2.2.1, hne.2.2.2.1, hne.2.2.2.2.1, hne.2.2.2.2.2.1, hne.2.2.2.2.2.2.1, hne.2.2.2.2.2.2.2.1, hne.2.2.2.2.2.2.2.2.1, hne.2.2.2.2.2.2.2.2.2.1, hne.2.2.2.2.2.2.2.2.2.2.1, allNe_iff.mpr z3⟩
    case wj =>
     refine' ⟨its1, k1, its2, k2, add, rfl, hs, z1, z2, ?TT1, ?TT2, wB9 y1 (Nat.le_trans (Nat.sub_le _ _) (Nat.le_trans hb2 (Nat.le_trans fb (by decide)))), wB9 y2 (Nat.le_trans (Nat.sub_le _ _) (Nat.le_trans hb2 (Nat.le_trans fb (by decide)))), f1, f2, f3, f4, f5, f6⟩
     case TT1 => rw [gridP_zero, ← gridP_full]; exact T1
     case TT2 => rw [gridP_zero, ← gridP_full]; exact T2
   case turn =>
   clear m1 m2 m3 m4 m5 m6
   rintro j t I2 oI2 m news h tk hj ⟨its1, k1, its2, k2, add, ti, rfl, hs, z1, z2, z3, T1, T2, y1, y2, m0, m1, m2, m3, m4, m5, m6⟩ hne2 - F N
   obtain ⟨tx2, hx2⟩ := strs_get q2 (k := j) (x := textS r1 ((blo + j : Nat) : Int) bhi) (by rw [List.getElem?_map, List.getElem?_range hj]; rfl)
   have gq := g1.text (blo + j) bhi (Nat.add_lt_of_lt_sub' hj) hb2
   have gq' : Txt.startswith (textS r1 ((blo + j : Nat) : Int) bhi) (Str.ofString "/") = true ∧ (textS r1 ((blo + j : Nat) : Int) bhi).length ≤ 1000 ∧ nms (textS r1 ((blo + j : Nat) : Int) bhi) = (B0.take bhi).drop (blo + j) := ⟨gq.1, gq.2.1, gq.2.2.1⟩
   clear gq
   generalize textS r1 ((blo + j : Nat) : Int) bhi = x2 at hx2 gq'
   obtain ⟨v4, hv4, hu4⟩ := q4.getR (k := j) (by rw [List.getElem?_map, List.getElem?_range hj]; rfl)
   obtain ⟨u2, us2, nu2, rfl, hu2, su2⟩ := hu4.open
   have zu2 : (((B0.take (blo + j + 1)).drop blo).reverse).length ≤ 1000 := by simp; exact wA9 1000 (Nat.min_le_right _ _) fb (by decide)
   have hk2 : (blo : Int) + (j : Int) - (blo : Int) = (j : Int) := by lia
   have zj : j < 10 := Nat.lt_of_lt_of_le hj (Nat.le_trans (Nat.sub_le _ _) (Nat.le_trans hb2 (Nat.le_trans fb (by decide))))
   have hu1' := hs _ hu1
   have hu2' := hs _ hu2
   clear hu4 q2 q4
   have nI2b : lb ≠ I2 := hne2.2.1
   have nI2a : la ≠ I2 := hne2.2.2.1
   have ka : ∀ p ∈ (D4, LCg.lst vs4) :: (D3, LCg.lst vs3) :: (D2, LCg.lst vs2) :: (D1, LCg.lst vs1) :: (h₀.objs.size + 1 + 1 + 1 + 1 + 1, o5) :: (h₀.objs.size + 1 + 1 + 1 + 1, o4) :: (h₀.objs.size + 1 + 1 + 1, o3) :: (h₀.objs.size + 1 + 1, o2) :: (h₀.objs.size + 1, o1) :: add, p.1 ≠ la := off1_app n1 z1
   have kb : ∀ p ∈ (D4, LCg.lst vs4) :: (D3, LCg.lst vs3) :: (D2, LCg.lst vs2) :: (D1, LCg.lst vs1) :: (h₀.objs.size + 1 + 1 + 1 + 1 + 1, o5) :: (h₀.objs.size + 1 + 1 + 1 + 1, o4) :: (h₀.objs.size + 1 + 1 + 1, o3) :: (h₀.objs.size + 1 + 1, o2) :: (h₀.objs.size + 1, o1) :: add, p.1 ≠ lb := off1_app n2 z2
   rename_i zy1 zy2 zy3 zy4 zy5 zy6 zy7 zy8 zy9 zy10 zy11 zy12 zy13 zy14 zy15 zy16 zy17 zy18 zy19 zy20 zy21 zy22 zy23 zy24 zy25 zy26 zy27 zy28 zy29 zy30 zy31 zy32 zy33 zy34 zy35 zy36
   clear hu2 hj zy36 zy35 zy34 zy33 zy32 zy31 zy30 zy27 zy26 zy25 zy24 hu1 hne zy23 zy22 zy21 zy20 zy19 zy18 zy17 zy16 zy15 zy14 zy13 zy12 hi zy9 zy8 zy7 zy6 zy5 zy4 zy3 zy2 zy1 T mb mg X n2 fb hb2 hb ha g1 n1 hTb hTa d3 d5
   revert C R d4 d2 g0 ha2 fa nab hx1 gp' hv3 su1 zu1 hk1 zi nIb nIa hs z1 z2 z3 T1 T2 y1 y2 m0 m1 m2 m3 m4 m5 m6 hne2 F N hx2 gq' hv4 su2 zu2 hk2 zj hu1' hu2' nI2b nI2a ka kb
   revert i I oI zy10 zy11 tx1 x1 u1 us1 nu1 zy28 zy29 j t I2 oI2 m h tk its1 k1 its2 k2 add ti tx2 x2 u2 us2 nu2
   exact zh)
 ⟩
noncomputable def zT (x : YY) : Prop := zQ.1 (x 0 0) (x 0 1) (x 3 2) (x 2 3) (x 0 4) (x 0 5) (x 12 6) (x 0 7) (x 4 8) (x 0 9) (x 2 10) (x 0 11) (x 0 12) (x 0 13) (x 0 14) (x 3 15) (x 6 16) (x 2 17) (x 0 18) (x 29 19) (x 0 20) (x 29 21) (x 0 22) (x 7 23) (x 0 24) (x 0 25) (x 12 26) (x 0 27) (x 4 28) (x 0 29)
noncomputable def zC := pickY zT
def i : Nat := zC 0 0
def I : Addr := zC 0 1
@[irreducible] def oI : Obj := zC 3 2
@[irreducible] def zy10 : Heap := zC 2 3
def zy11 : Nat := zC 0 4
def tx1 : Tok := zC 0 5
def x1 : Str := zC 12 6
def u1 : Addr := zC 0 7
@[irreducible] def us1 : List Value := zC 4 8
def nu1 : Nat := zC 0 9
@[irreducible] def zy28 : Heap := zC 2 10
def zy29 : Nat := zC 0 11
def j : Nat := zC 0 12
def t : Tok := zC 0 13
def I2 : Addr := zC 0 14
@[irreducible] def oI2 : Obj := zC 3 15
def m : Str → Option Value := zC 6 16
@[irreducible] def h : Heap := zC 2 17
def tk : Nat := zC 0 18
@[irreducible] def its1 : Array Value := zC 29 19
def k1 : Nat := zC 0 20
@[irreducible] def its2 : Array Value := zC 29 21
def k2 : Nat := zC 0 22
@[irreducible] def add : List (Addr × Obj) := zC 7 23
def ti : Tok := zC 0 24
def tx2 : Tok := zC 0 25
def x2 : Str := zC 12 26
def u2 : Addr := zC 0 27
@[irreducible] def us2 : List Value := zC 4 28
def nu2 : Nat := zC 0 29
theorem zA (h : zQ.1 i I oI zy10 zy11 tx1 x1 u1 us1 nu1 zy28 zy29 j t I2 oI2 m h tk its1 k1 its2 k2 add ti tx2 x2 u2 us2 nu2) : ∀ y, zT y := by with_unfolding_all exact pickY_spec zT h
theorem zK : zQ.1 i I oI zy10 zy11 tx1 x1 u1 us1 nu1 zy28 zy29 j t I2 oI2 m h tk its1 k1 its2 k2 add ti tx2 x2 u2 us2 nu2 := by
 delta zQ
 dsimp only
 intro C R d4 d2 g0 ha2 fa nab hx1 gp' hv3 su1 zu1 hk1 zi nIb nIa hs z1 z2 z3 T1 T2 y1 y2 m0 m1 m2 m3 m4 m5 m6 hne2 F N hx2 gq' hv4 su2 zu2 hk2 zj hu1' hu2' nI2b nI2a ka kb
 w_on
 w_strict (
  have s1 := wC9 y1 zi zj
  have s2 := wC9 y2 zi zj
  have X := Cx.X C
  obtain ⟨mg, mb, T⟩ := Cx.T C
  repeat' ((fail_if_success with_reducible show wpAny _ _ (subscriptTail _ _ _ _) _ _ _); (fail_if_success with_reducible show wpAny _ _ (call (Value.ref _) [_]) _ _ _); walk_at "my step1")
  iterate 2
   refine' item_ledI ?zN ?zm ?za ?zb ?zc ?_ ?zhs ?zhg
   walk_at "my nm"
   case za => walk_at "a"
   case zb => walk_at "a"
   case zc => exact Nat.lt_of_lt_of_le (by walk_at "a" : _ < 10) (by decide)
   walk_at "my hs"
   repeat' ((fail_if_success with_reducible show wpAny _ _ (subscriptTail _ _ _ _) _ _ _); (fail_if_success with_reducible show wpAny _ _ (call (Value.ref _) [_]) _ _ _); walk_at "my step1")
  refine' common2_ ?zC ?zR ?za ?zb ?zc ?_
  walk_at "my cr"
  case za => walk_at "my news"
  case zb => walk_at "a"
  case zc => walk_at "a"
  walk_at "my lift"
  walk_at "my steps"
  walk_at "my sizes"
  refine' LCt.ListComp_T (L := h₀.objs.size) (h₀ := h₀) ?u0 ?u1 ?u2 ?u3 ?u4 ?u5 ?u6 ?u7
  case u0 => walk_at "a"
  case u1 => with_unfolding_all rfl
  case u2 => decide
  case u3 => rfl
  case u4 => decide
  case u5 => rfl
  case u7 => intro _; rfl
  case u6 =>
  walk_at "my steps"
  rename List.map _ _ = Txt.split _ _ => e1
  refine' LCt.CompSrcT.ledger ?hh ?F ?N ?hm ?hz ?R
  case hh => exact rfl
  case F => walk_at "a"
  case N => walk_at "a"
  case hm => k_mem
  case hz => exact vals_size3 e1 (by walk_at "a")
  case R =>
  intro g6
  refine' filterT ne0V rfl ?f1 ?f2 ?f3 ?f4 ?f5
  case f1 => rfl
  case f2 => decide
  case f3 => exact .inr ⟨_, by k_mem, rfl, _, rfl⟩
  case f4 =>
   intro i v I oI Cc oC Dd ys m₂ h tk E' hv hC hm F N off ne
   obtain ⟨x, tx, rfl, zx⟩ := vals_item3 e1 (by walk_at "a") hv
   walk_at "my steps"
   refine' test_end (by walk_at "a") (by walk_at "a") rfl ?ts
   case ts => intro q hq; exact hq
  case f5 =>
  intro D6 h6 tk6 F6 N6 o6
  obtain ⟨ys5, hy5, ef⟩ : ∃ ys, List.filter ne0V (strValues _).toArray.toList = ys ∧ ys.length = _ := ⟨_, rfl, filter_ne0 e1⟩
  rw [hy5] at N6
  rename _ = Str.ofString "/" ++ _ => efr
  have ef2 : ys5.length = fsz A0 B0 ahi bhi (alo + i) (blo + j) := by
   rw [ef, efr]
   exact congrArg List.length (front_split fun x hx => g0.nice x (List.mem_of_mem_take (List.mem_of_mem_drop (cpre_sub hx))))
  have zf : ys5.length ≤ 10000 := by
   rw [ef2]; unfold fsz
   exact Nat.le_trans (cpre_len _ _) (by simp; exact wA9 10000 (Nat.min_le_right _ _) fa (by decide))
  clear ef efr e1 hy5
  have n6b : lb ≠ D6 := o6.2.2.2.2.1
  have n6a : la ≠ D6 := o6.2.2.2.2.2.1
  repeat' ((fail_if_success with_reducible show wpAny _ _ (call (Value.builtin "list.append") _) _ _ _); walk_at "my step1")
  walk_at "my step1"
  repeat' ((fail_if_success with_reducible show wpAny _ _ (subscriptTail _ _ _ _) _ _ _); (fail_if_success with_reducible show wpAny _ _ (call (Value.ref _) _) _ _ _); walk_at "my step1")
  iterate 2
   refine' item_ledI ?zN ?zm ?za ?zb ?zc ?_ ?zhs ?zhg
   walk_at "my nm"
   case za => walk_at "a"
   case zb => walk_at "a"
   case zc => exact Nat.lt_of_lt_of_le (by walk_at "a" : _ < 10) (by decide)
   walk_at "my hs"
   repeat' ((fail_if_success with_reducible show wpAny _ _ (subscriptTail _ _ _ _) _ _ _); (fail_if_success with_reducible show wpAny _ _ (call (Value.ref _) _) _ _ _); walk_at "my step1")
  refine' same_ ?zC ?zR ?za ?zb ?zc ?zd ?ze ?zf ?_
  walk_at "my cr"
  case za => walk_at "my led"
  case zb => walk_at "my led"
  case zc => walk_at "a"
  case zd => walk_at "a"
  case ze => walk_at "a"
  case zf => walk_at "a"
  walk_at "my lift"
  repeat' ((fail_if_success with_reducible show wpAny _ _ (call (Value.builtin "list.append") _) _ _ _); walk_at "my step1")
  ·walk_at "my steps"
   rename News _ _ _ _ => N
   refine' fnext (news' := (I, oI) :: (lb, listOf (its2.push (.ref ?T2)) ?b2) :: (la, listOf (its1.push (.ref ?T1)) ?b1) :: (D4, LCg.lst vs4) :: (D3, LCg.lst vs3) :: (D2, LCg.lst vs2) :: (D1, LCg.lst vs1) :: (h₀.objs.size + 1 + 1 + 1 + 1 + 1, o5) :: (h₀.objs.size + 1 + 1 + 1 + 1, o4) :: (h₀.objs.size + 1 + 1 + 1, o3) :: (h₀.objs.size + 1 + 1, o2) :: (h₀.objs.size + 1, o1) :: (?T2, t3 (?y1, ?y2, ?y3) ?y4 ?y5 ?y6) :: (?T1, t3 (?x1, ?x2, ?x3) ?x4 ?x5 ?x6) :: add) (by walk_at "a") N ?wj ?ws ?wn
   case ws => walk_at "my sub"
   case wn =>
    simp only [AllNe]
    exact ⟨hne2.1, hne2.2.1, hne2.2.2.1, hne2.2.2.2.1, hne2.2.2.2.2.1, hne2.2.2.2.2.2.1, hne2.2.2.2.2.2.2.1, hne2.2.2.2.2.2.2.2.1, hne2.2.2.2.2.2.2.2.2.1, hne2.2.2.2.2.2.2.2.2.2.1, hne2.2.2.2.2.2.2.2.2.2.2.1, hne2.2.2.2.2.2.2.2.2.2.2.2.1, by lia, by lia, hne2.2.2.2.2.2.2.2.2.2.2.2.2⟩
   case wj =>
    refine' ⟨_, _, _, _, _, _, rfl, fun p hp => .tail _ (.tail _ (hs p hp)), List.forall_mem_cons.mpr ⟨by k_ne, List.forall_mem_cons.mpr ⟨by k_ne, z1⟩⟩, List.forall_mem_cons.mpr ⟨by k_ne, List.forall_mem_cons.mpr ⟨by k_ne, z2⟩⟩, List.forall_mem_cons.mpr ⟨by k_ne, List.forall_mem_cons.mpr ⟨by k_ne, z3⟩⟩, ?TT1, ?TT2, ?zz1, ?zz2, ?l0, ?l1, ?l2, ?l3, ?l4, ?l5, ?l6⟩
    case l0 => walk_at "my look"
    case l1 => walk_at "my look"
    case l2 => walk_at "my look"
    case l3 => walk_at "my look"
    case l4 => walk_at "my look"
    case l5 => walk_at "my look"
    case l6 => walk_at "my look"
    case zz1 => simp only [Array.size_push]; exact Nat.succ_le_succ y1
    case zz2 => simp only [Array.size_push]; exact Nat.succ_le_succ y2
    case TT1 =>
     rw [gridP_succ]
     have ea : eF A0 B0 alo ahi blo bhi i j = [_] := rfl
     rw [ea, ← ef2, Array.toList_push]
     exact All2.snoc (T3s.mono T1 fun p hp => .tail _ (.tail _ hp)) ⟨_, _, _, _, rfl, .tail _ (.head _)⟩
    case TT2 =>
     rw [gridP_succ]
     have eb : eB A0 B0 alo ahi blo bhi i j = [_] := if_pos (by unfold bsz; lia)
     rw [eb, Array.toList_push]
     exact All2.snoc (T3s.mono T2 fun p hp => .tail _ (.tail _ hp)) ⟨_, _, _, _, rfl, .head _⟩
  ·walk_at "my steps"
   rename News _ _ _ _ => N
   refine' fnext (news' := (I, oI) :: (lb, listOf its2 k2) :: (la, listOf (its1.push (.ref ?T1)) ?b1) :: (D4, LCg.lst vs4) :: (D3, LCg.lst vs3) :: (D2, LCg.lst vs2) :: (D1, LCg.lst vs1) :: (h₀.objs.size + 1 + 1 + 1 + 1 + 1, o5) :: (h₀.objs.size + 1 + 1 + 1 + 1, o4) :: (h₀.objs.size + 1 + 1 + 1, o3) :: (h₀.objs.size + 1 + 1, o2) :: (h₀.objs.size + 1, o1) :: (?T1, t3 (?x1, ?x2, ?x3) ?x4 ?x5 ?x6) :: add) (by walk_at "a") N ?wj ?ws ?wn
   case ws => walk_at "my sub"
   case wn =>
    simp only [AllNe]
    exact ⟨hne2.1, hne2.2.1, hne2.2.2.1, hne2.2.2.2.1, hne2.2.2.2.2.1, hne2.2.2.2.2.2.1, hne2.2.2.2.2.2.2.1, hne2.2.2.2.2.2.2.2.1, hne2.2.2.2.2.2.2.2.2.1, hne2.2.2.2.2.2.2.2.2.2.1, hne2.2.2.2.2.2.2.2.2.2.2.1, hne2.2.2.2.2.2.2.2.2.2.2.2.1, by lia, hne2.2.2.2.2.2.2.2.2.2.2.2.2⟩
   case wj =>
    refine' ⟨_, _, _, _, _, _, rfl, fun p hp => .tail _ (hs p hp), List.forall_mem_cons.mpr ⟨by k_ne, z1⟩, List.forall_mem_cons.mpr ⟨by k_ne, z2⟩, List.forall_mem_cons.mpr ⟨by k_ne, z3⟩, ?TT1, ?TT2, ?zz1, ?zz2, ?l0, ?l1, ?l2, ?l3, ?l4, ?l5, ?l6⟩
    case l0 => walk_at "my look"
    case l1 => walk_at "my look"
    case l2 => walk_at "my look"
    case l3 => walk_at "my look"
    case l4 => walk_at "my look"
    case l5 => walk_at "my look"
    case l6 => walk_at "my look"
    case zz1 => simp only [Array.size_push]; exact Nat.succ_le_succ y1
    case zz2 => exact Nat.le_succ_of_le y2
    case TT1 =>
     rw [gridP_succ]
     have ea : eF A0 B0 alo ahi blo bhi i j = [_] := rfl
     rw [ea, ← ef2, Array.toList_push]
     exact All2.snoc (T3s.mono T1 fun p hp => .tail _ hp) ⟨_, _, _, _, rfl, .head _⟩
    case TT2 =>
     rw [gridP_succ]
     have eb : eB A0 B0 alo ahi blo bhi i j = [] := if_neg (by unfold bsz; lia)
     rw [eb, List.append_nil]
     exact T3s.mono T2 fun p hp => .tail _ hp)
end zB
theorem zK : zP w d0 u0 fr0 gd0 s h₀ m la lb Ta Tb D1 D2 D3 D4 o1 o2 o3 o4 o5 vs1 vs2 vs3 vs4 add0 A0 B0 r0 r1 alo ahi blo bhi t1 t2 t3' t4 u1 u2 u3 u4 u5 u6 := zB.zQ.2 fun i I oI zy10 zy11 tx1 x1 u1 us1 nu1 zy28 zy29 j t I2 oI2 m h tk its1 k1 its2 k2 add ti tx2 x2 u2 us2 nu2 => zB.zA zB.zK (putY [⟨0, i⟩, ⟨0, I⟩, ⟨3, oI⟩, ⟨2, zy10⟩, ⟨0, zy11⟩, ⟨0, tx1⟩, ⟨12, x1⟩, ⟨0, u1⟩, ⟨4, us1⟩, ⟨0, nu1⟩, ⟨2, zy28⟩, ⟨0, zy29⟩, ⟨0, j⟩, ⟨0, t⟩, ⟨0, I2⟩, ⟨3, oI2⟩, ⟨6, m⟩, ⟨2, h⟩, ⟨0, tk⟩, ⟨29, its1⟩, ⟨0, k1⟩, ⟨29, its2⟩, ⟨0, k2⟩, ⟨7, add⟩, ⟨0, ti⟩, ⟨0, tx2⟩, ⟨12, x2⟩, ⟨0, u2⟩, ⟨4, us2⟩, ⟨0, nu2⟩])
end cwin_for
end
theorem win_for {w : World} {d0 u0 : Nat} {fr0 : Option (List Env)} {gd0 : Option (List Code)} {s : Shared} {h₀ : Heap} {m : Str → Option Value} {la lb Ta Tb D1 D2 D3 D4 : Addr} {o1 o2 o3 o4 o5 : Obj} {vs1 vs2 vs3 vs4 : List Value} {add0 : List (Addr × Obj)} {A0 B0 r0 r1 : List Str} {alo ahi blo bhi : Nat} {t1 t2 t3' t4 u1 u2 u3 u4 u5 u6 : Tok} : cwin_for.zP w d0 u0 fr0 gd0 s h₀ m la lb Ta Tb D1 D2 D3 D4 o1 o2 o3 o4 o5 vs1 vs2 vs3 vs4 add0 A0 B0 r0 r1 alo ahi blo bhi t1 t2 t3' t4 u1 u2 u3 u4 u5 u6 := cwin_for.zA cwin_for.zK (putY (⟨1, w⟩ :: ⟨0, d0⟩ :: ⟨0, u0⟩ :: ⟨10, fr0⟩ :: ⟨11, gd0⟩ :: ⟨5, s⟩ :: ⟨2, h₀⟩ :: ⟨6, m⟩ :: ⟨0, la⟩ :: ⟨0, lb⟩ :: ⟨0, Ta⟩ :: ⟨0, Tb⟩ :: ⟨0, D1⟩ :: ⟨0, D2⟩ :: ⟨0, D3⟩ :: ⟨0, D4⟩ :: ⟨3, o1⟩ :: ⟨3, o2⟩ :: ⟨3, o3⟩ :: ⟨3, o4⟩ :: ⟨3, o5⟩ :: ⟨4, vs1⟩ :: ⟨4, vs2⟩ :: ⟨4, vs3⟩ :: ⟨4, vs4⟩ :: ⟨7, add0⟩ :: ⟨13, A0⟩ :: ⟨13, B0⟩ :: ⟨13, r0⟩ :: ⟨13, r1⟩ :: ⟨0, alo⟩ :: ⟨0, ahi⟩ :: ⟨0, blo⟩ :: ⟨0, bhi⟩ :: ⟨0, t1⟩ :: ⟨0, t2⟩ :: ⟨0, t3'⟩ :: ⟨0, t4⟩ :: ⟨0, u1⟩ :: ⟨0, u2⟩ :: ⟨0, u3⟩ :: ⟨0, u4⟩ :: ⟨0, u5⟩ :: ⟨0, u6⟩ :: []))
end
section
theorem win_pack {h₀ h : Heap} {L lb Tb la Ta : Addr} {o1 o2 : Obj} {r : List (Addr × Obj)} (_N : News h₀ L h ((lb, listOf #[.ref Tb] 0) :: (Tb, o1) :: (la, listOf #[.ref Ta] 0) :: (Ta, o2) :: r)) : ∃ lb' Tb' la' Ta', lb' = lb ∧ Tb' = Tb ∧ la' = la ∧ Ta' = Ta := ⟨_, _, _, _, rfl, rfl, rfl, rfl⟩
noncomputable section
namespace cwindow_
noncomputable def zP (w : World) (A : Around) (E : Value → Shared → Prop) (s : Shared) (Q : Value → Shared → Prop) (a l0 l1 : Addr) (v0 v1 : List Value) (r0 r1 A0 B0 : List Str) (alo ahi blo bhi : Nat) (t1 t2 t3' t4 : Tok) : Prop := ∀ (C : Cx w s.heap) (R : Room A 12) (la : s.heap.IsList a #[.ref l0, .ref l1]) (la0 : s.heap.IsList l0 v0.toArray) (la1 : s.heap.IsList l1 v1.toArray) (s0 : StrsAre v0 r0) (s1 : StrsAre v1 r1) (g0 : RowOk r0 A0) (g1 : RowOk r1 B0) (ha : alo < ahi) (ha2 : ahi ≤ A0.length) (hb : blo < bhi) (hb2 : bhi ≤ B0.length) (hQ : ∀ h' tk T a1 a2 x y ta tb tc ua ub uc, Keeps s.heap h' → s.heap.get? T = none → s.heap.get? a1 = none → s.heap.get? a2 = none → h'.get? T = some { cls := .type "tuple", data := .seq #[.ref a1, .ref a2] } → h'.get? a1 = some (t3 x ta tb tc) → h'.get? a2 = some (t3 y ua ub uc) →
   IsLeast (((0 : Int), (alo : Int), (blo : Int)) :: grid (eF A0 B0 alo ahi blo bhi) (ahi - alo) (bhi - blo)) x → IsLeast (((0 : Int), (alo : Int), (blo : Int)) :: grid (eB A0 B0 alo ahi blo bhi) (ahi - alo) (bhi - blo)) y → Q (.ref T) { s with heap := h', toks := tk }), wpAny (model pw w) A (call (.ref 385) [.ref a, .int alo t1, .int ahi t2, .int blo t3', .int bhi t4]) Q E s
noncomputable def zT (x : YY) : Prop := zP (x 1 0) { depth := (x 0 1), frames := (x 10 2), guards := (x 11 3), units := (x 0 4) } (x 9 5) (x 5 6) (x 9 7) (x 0 8) (x 0 9) (x 0 10) (x 4 11) (x 4 12) (x 13 13) (x 13 14) (x 13 15) (x 13 16) (x 0 17) (x 0 18) (x 0 19) (x 0 20) (x 0 21) (x 0 22) (x 0 23) (x 0 24)
noncomputable def zC := pickY zT
@[irreducible] def w : World := zC 1 0
def d0 : Nat := zC 0 1
@[irreducible] def fr0 : Option (List Env) := zC 10 2
@[irreducible] def gd0 : Option (List Code) := zC 11 3
def u0 : Nat := zC 0 4
@[irreducible] def E : Value → Shared → Prop := zC 9 5
@[irreducible] def s : Shared := zC 5 6
@[irreducible] def Q : Value → Shared → Prop := zC 9 7
def a : Addr := zC 0 8
def l0 : Addr := zC 0 9
def l1 : Addr := zC 0 10
@[irreducible] def v0 : List Value := zC 4 11
@[irreducible] def v1 : List Value := zC 4 12
@[irreducible] def r0 : List Str := zC 13 13
@[irreducible] def r1 : List Str := zC 13 14
@[irreducible] def A0 : List Str := zC 13 15
@[irreducible] def B0 : List Str := zC 13 16
def alo : Nat := zC 0 17
def ahi : Nat := zC 0 18
def blo : Nat := zC 0 19
def bhi : Nat := zC 0 20
def t1 : Tok := zC 0 21
def t2 : Tok := zC 0 22
def t3' : Tok := zC 0 23
def t4 : Tok := zC 0 24
theorem zA (h : zP w { depth := d0, frames := fr0, guards := gd0, units := u0 } E s Q a l0 l1 v0 v1 r0 r1 A0 B0 alo ahi blo bhi t1 t2 t3' t4) : ∀ y, zT y := by with_unfolding_all exact pickY_spec zT h
namespace zB
noncomputable def zQ : {T : Nat → Obj → Obj → Obj → Obj → Obj → Nat → Addr → Addr → Addr → Addr → (List Value) → Addr → Heap → Nat → Heap → (List Value) → Addr → Heap → Nat → Prop // (∀ tk' zy1 zy2 zy3 zy4 zy5 zy14 lb Tb la' Ta vs1 D1 zy38 zy39 g vs2 D2 h1 tk1, T tk' zy1 zy2 zy3 zy4 zy5 zy14 lb Tb la' Ta vs1 D1 zy38 zy39 g vs2 D2 h1 tk1) → zP w { depth := d0, frames := fr0, guards := gd0, units := u0 } E s Q a l0 l1 v0 v1 r0 r1 A0 B0 alo ahi blo bhi t1 t2 t3' t4} := ⟨_, by
 intro zh
 intro C R la la0 la1 s0 s1 g0 g1 ha ha2 hb hb2 hQ
 have fa := g0.few
 have fb := g1.few
 have gl0 := g0.len
 have gl1 := g1.len
 have gs0 := g0.small
 have gs1 := g1.small
 w_on
 w_strict (
  (rename Room _ _ => R0); refine wpAny_call ?_
  refine' enterC [(Str.ofString "rows", .ref a), (Str.ofString "alo", .int alo t1), (Str.ofString "ahi", .int ahi t2), (Str.ofString "blo", .int blo t3'), (Str.ofString "bhi", .int bhi t4)] ?k1 ?k6 ?k7 ?k8 ?k9 ?kB ?kD ?_ ?c2 ?c3 ?c4
  ( k_dflt ((case k1 => assumption); (case k6 => k_is); (case k7 => k_is); (case k8 => assumption); (case k9 => walk_at "my binds"); (case kB => exact rfl); (case kD => decide +kernel); (case c2 => exact rfl); (case c3 => exact rfl); (case c4 => exact rfl); intro h' tk' cells' F' N' Y' R'; k_cells Y'; (try dsimp only at F'); (try dsimp only at N'); (try dsimp only)); have X := Cx.X (by assumption); obtain ⟨mg, mb, T⟩ := Cx.T (by assumption))
  walk_at "my steps"
  rename News _ _ _ _ => N
  obtain ⟨lb, Tb, la', Ta, rfl, rfl, rfl, rfl⟩ := win_pack N
  (refine' LCg.Assign_ListComp_U ?a0 ?a1 ?a2 ?a3 ?a4 ?a5 ?a6 ?a7 ?a8 ?a9 ?b1 ?b2; (case a0 => walk_at "a"); (case a1 => rfl); (case a2 => with_unfolding_all rfl); (case a3 => with_unfolding_all rfl); (case a4 => decide); (case a5 => rfl); (case a6 => decide); (case a7 => rfl); (case a8 => rfl); (case a9 => rfl); (case b2 => intro _; rfl))
  case b1 =>
  walk_at "my steps"
  refine' LCg.CompSrc.range (n := ahi - alo) ?hh ?F ?N ?hr ?hsm ?hn ?hz ?R
  ((case hh => exact rfl); (case F => walk_at "a"); (case N => walk_at "a"); (case hr => walk_at "a"); (case hsm => exact small_one (by lia) (by lia) (by lia) (by lia)); (case hn => rw [rangeSize_nat]; lia); (case hz => rw [sizeLine_eq]; lia))
  case R =>
  intro g
  refine' compRest_inv (fun i ys news => news = ?led1 ∧ StrsAre ys ((List.range i).map fun k => textS r0 ((alo + k : Nat) : Int) ahi)) ⟨rfl, .nil⟩ ?turn ?fin
  case turn =>
   rintro i v ys news I oI C oC D m₂ h tk E' hi ⟨t, rfl⟩ ⟨rfl, hy⟩ hC hx F N off ne
   walk_at "my steps"
   refine' text_ ?zC ?zR ?za ?zb ?zc ?zd ?_
   walk_at "my cr"
   case za => first | walk_at "a" | exact Heap.IsList.at (by walk_at "a") (Fr.keep (by walk_at "a") _)
   case zb => walk_at "a"
   case zc => walk_at "a"
   case zd => walk_at "a"
   walk_at "my lift"
   walk_at "my steps"
   refine' comp_end_same (by walk_at "a") (by walk_at "a") off trivial ⟨rfl, ?_⟩
   rw [List.range_succ, List.map_append]
   exact StrsAre.snoc hy _ _
  case fin =>
  rintro vs1 news ⟨rfl, hvs1⟩
  intro D1 h1 tk1 F1 N1 oD1
  walk_at "my steps"
  (refine' LCg.Assign_ListComp_U ?a0 ?a1 ?a2 ?a3 ?a4 ?a5 ?a6 ?a7 ?a8 ?a9 ?b1 ?b2; (case a0 => walk_at "a"); (case a1 => rfl); (case a2 => with_unfolding_all rfl); (case a3 => with_unfolding_all rfl); (case a4 => decide); (case a5 => rfl); (case a6 => decide); (case a7 => rfl); (case a8 => rfl); (case a9 => rfl); (case b2 => intro _; rfl))
  case b1 =>
  walk_at "my steps"
  refine' LCg.CompSrc.range (n := bhi - blo) ?hh ?F ?N ?hr ?hsm ?hn ?hz ?R
  ((case hh => exact rfl); (case F => walk_at "a"); (case N => walk_at "a"); (case hr => walk_at "a"); (case hsm => exact small_one (by lia) (by lia) (by lia) (by lia)); (case hn => rw [rangeSize_nat]; lia); (case hz => rw [sizeLine_eq]; lia))
  case R =>
  intro g
  refine' compRest_inv (fun i ys news => news = ?led2 ∧ StrsAre ys ((List.range i).map fun k => textS r1 ((blo + k : Nat) : Int) bhi)) ⟨rfl, .nil⟩ ?turn ?fin
  case turn =>
   rintro i v ys news I oI C oC D m₂ h tk E' hi ⟨t, rfl⟩ ⟨rfl, hy⟩ hC hx F N off ne
   walk_at "my steps"
   refine' text_ ?zC ?zR ?za ?zb ?zc ?zd ?_
   walk_at "my cr"
   case za => first | walk_at "a" | exact Heap.IsList.at (by walk_at "a") (Fr.keep (by walk_at "a") _)
   case zb => walk_at "a"
   case zc => walk_at "a"
   case zd => walk_at "a"
   walk_at "my lift"
   walk_at "my steps"
   refine' comp_end_same (by walk_at "a") (by walk_at "a") off trivial ⟨rfl, ?_⟩
   rw [List.range_succ, List.map_append]
   exact StrsAre.snoc hy _ _
  case fin =>
  rintro vs2 news ⟨rfl, hvs2⟩
  intro D2 h1 tk1 F1 N1 oD2
  rename_i zy1 zy2 zy3 zy4 zy5 zy6 zy7 zy8 zy9 zy10 zy11 zy12 zy13 zy14 zy15 zy16 zy17 zy18 zy19 zy20 zy21 zy22 zy23 zy24 zy25 zy26 zy27 zy28 zy29 zy30 zy31 zy32 zy33 zy34 zy35 zy36 zy37 zy38 zy39 zy40 zy41 zy42 zy43 zy44 zy45 zy46
  clear zy46 zy45 zy44 zy43 zy42 zy41 zy40 zy37 zy36 zy35 zy34 zy33 zy32 zy31 zy30 zy29 zy28 zy27 zy26 zy25 zy24 zy23 zy19 zy18 tk zy17 zy16 zy15 zy13 zy12 zy11 T mb mg X h' R0
  revert C la la0 la1 s0 s1 g0 g1 ha ha2 hb hb2 hQ fa fb gl0 gl1 gs0 gs1 R' zy6 zy7 zy8 zy9 zy10 zy20 zy21 zy22 hvs1 oD1 hvs2 F1 N1 oD2
  revert tk' zy1 zy2 zy3 zy4 zy5 zy14 lb Tb la' Ta vs1 D1 zy38 zy39 g vs2 D2 h1 tk1
  exact zh)
 ⟩
noncomputable def zT (x : YY) : Prop := zQ.1 (x 0 0) (x 3 1) (x 3 2) (x 3 3) (x 3 4) (x 3 5) (x 0 6) (x 0 7) (x 0 8) (x 0 9) (x 0 10) (x 4 11) (x 0 12) (x 2 13) (x 0 14) (x 2 15) (x 4 16) (x 0 17) (x 2 18) (x 0 19)
noncomputable def zC := pickY zT
def tk' : Nat := zC 0 0
@[irreducible] def zy1 : Obj := zC 3 1
@[irreducible] def zy2 : Obj := zC 3 2
@[irreducible] def zy3 : Obj := zC 3 3
@[irreducible] def zy4 : Obj := zC 3 4
@[irreducible] def zy5 : Obj := zC 3 5
def zy14 : Nat := zC 0 6
def lb : Addr := zC 0 7
def Tb : Addr := zC 0 8
def la' : Addr := zC 0 9
def Ta : Addr := zC 0 10
@[irreducible] def vs1 : List Value := zC 4 11
def D1 : Addr := zC 0 12
@[irreducible] def zy38 : Heap := zC 2 13
def zy39 : Nat := zC 0 14
@[irreducible] def g : Heap := zC 2 15
@[irreducible] def vs2 : List Value := zC 4 16
def D2 : Addr := zC 0 17
@[irreducible] def h1 : Heap := zC 2 18
def tk1 : Nat := zC 0 19
theorem zA (h : zQ.1 tk' zy1 zy2 zy3 zy4 zy5 zy14 lb Tb la' Ta vs1 D1 zy38 zy39 g vs2 D2 h1 tk1) : ∀ y, zT y := by with_unfolding_all exact pickY_spec zT h
namespace zD
noncomputable def zQ : {zz : (List Value) → (List (Addr × Obj)) → Addr → Heap → Nat → Heap → (List Value) → (List (Addr × Obj)) → Addr → Heap → Nat → Prop // (∀ vs3 add3 D3 zy25 zy26 g vs4 add4 D4 h1 tk1, zz vs3 add3 D3 zy25 zy26 g vs4 add4 D4 h1 tk1) → zQ.1 tk' zy1 zy2 zy3 zy4 zy5 zy14 lb Tb la' Ta vs1 D1 zy38 zy39 g vs2 D2 h1 tk1} := ⟨_, by
 intro zh
 delta zQ
 dsimp only
 intro C la la0 la1 s0 s1 g0 g1 ha ha2 hb hb2 hQ fa fb gl0 gl1 gs0 gs1 R' _ _ _ _ _ _ _ _ hvs1 oD1 hvs2 F1 N1 oD2
 w_on
 w_strict (
  have X := Cx.X C
  obtain ⟨mg, mb, T⟩ := Cx.T C
  walk_at "my steps"
  (refine' LCg.Assign_ListComp_U ?a0 ?a1 ?a2 ?a3 ?a4 ?a5 ?a6 ?a7 ?a8 ?a9 ?b1 ?b2; (case a0 => walk_at "a"); (case a1 => rfl); (case a2 => with_unfolding_all rfl); (case a3 => with_unfolding_all rfl); (case a4 => decide); (case a5 => rfl); (case a6 => decide); (case a7 => rfl); (case a8 => rfl); (case a9 => rfl); (case b2 => intro _; rfl))
  case b1 =>
  walk_at "my steps"
  rename News _ _ _ _ => N0
  obtain ⟨base3, hbase3, N1⟩ := led_split [_, _, _, _, _, _, _, _, _, _, _] ([] : List (Addr × Obj)) (by rw [List.append_nil]; exact N0)
  clear N0
  refine' LCg.CompSrc.range (n := ahi - alo) ?hh ?F ?N ?hr ?hsm ?hn ?hz ?R
  ((case hh => exact rfl); (case F => walk_at "a"); (case N => walk_at "a"); (case hr => walk_at "a"); (case hsm => exact small_one (by lia) (by lia) (by lia) (by lia)); (case hn => rw [rangeSize_nat]; lia); (case hz => rw [sizeLine_eq]; lia))
  case R =>
  intro g
  refine' compRest_inv (fun i ys news => ∃ add, news = base3 ++ add ∧ (∀ p ∈ ([] : List (Addr × Obj)), p ∈ add) ∧ (∀ p ∈ add, p.1 ≠ la' ∧ p.1 ≠ lb) ∧ Lss add ys ((List.range i).map fun k => ((A0.take (alo + k + 1)).drop alo).reverse)) ⟨([] : List (Addr × Obj)), rfl, fun _ h => h, fun _ h => (nomatch h), .nil⟩ ?turn ?fin
  case turn =>
   rintro i v ys news I oI C oC D m₂ h tk E' hi ⟨t, rfl⟩ ⟨add, rfl, hsub, hap, hy⟩ hC hx F N off ne
   obtain ⟨nU, zU, hU⟩ := (g0.text alo (alo + i + 1) (by lia) (by lia)).2.2.2
   rw [show ((alo + i + 1 : Nat) : Int) = (alo : Int) + (i : Int) + 1 by lia] at hU
   (rw [hbase3] at N; dsimp only [List.cons_append, List.nil_append] at N)
   walk_at "my steps"
   refine' text_ ?zC ?zR ?za ?zb ?zc ?zd ?_
   walk_at "my cr"
   case za => first | walk_at "a" | exact Heap.IsList.at (by walk_at "a") (Fr.keep (by walk_at "a") _)
   case zb => walk_at "a"
   case zc => walk_at "a"
   case zd => walk_at "a"
   walk_at "my lift"
   walk_at "my steps"
   refine' up_ ?zC ?zR ?za ?zb ?_
   walk_at "my cr"
   case za => walk_at "a"
   case zb => walk_at "a"
   walk_at "my back"
   walk_at "my steps"
   rename News _ _ _ _ => N
   rename LCg.Off1 _ _ => o1
   rename StrsAre _ _ => sA
   refine' comp_end_add (base := base3) (add := add) (by walk_at "a") (by rw [hbase3]; exact N) (by rw [hbase3]; exact o1) off trivial ⟨_, rfl, fun p hp => .tail _ (hsub p hp), List.forall_mem_cons.mpr ⟨⟨Ne.symm (off1_mem o1 (la', listOf #[.ref Ta] 0) (by walk_at "my memA")), Ne.symm (off1_mem o1 (lb, listOf #[.ref Tb] 0) (by walk_at "my memA"))⟩, hap⟩, ?_⟩
   rw [List.range_succ, List.map_append]
   exact All2.snoc (hy.mono sub_cons) ⟨_, _, _, rfl, .head _, sA⟩
  case fin =>
  rintro vs3 news ⟨add3, rfl, hsubadd3, hapadd3, hvs3⟩
  intro D3 h1 tk1 F1 N1 oD3
  (rw [hbase3] at N1 oD3; dsimp only [List.cons_append, List.nil_append] at N1 oD3)
  walk_at "my steps"
  (refine' LCg.Assign_ListComp_U ?a0 ?a1 ?a2 ?a3 ?a4 ?a5 ?a6 ?a7 ?a8 ?a9 ?b1 ?b2; (case a0 => walk_at "a"); (case a1 => rfl); (case a2 => with_unfolding_all rfl); (case a3 => with_unfolding_all rfl); (case a4 => decide); (case a5 => rfl); (case a6 => decide); (case a7 => rfl); (case a8 => rfl); (case a9 => rfl); (case b2 => intro _; rfl))
  case b1 =>
  walk_at "my steps"
  rename News _ _ _ _ => N0
  obtain ⟨base4, hbase4, N1⟩ := led_split [_, _, _, _, _, _, _, _, _, _, _, _] add3 N0
  clear N0
  refine' LCg.CompSrc.range (n := bhi - blo) ?hh ?F ?N ?hr ?hsm ?hn ?hz ?R
  ((case hh => exact rfl); (case F => walk_at "a"); (case N => walk_at "a"); (case hr => walk_at "a"); (case hsm => exact small_one (by lia) (by lia) (by lia) (by lia)); (case hn => rw [rangeSize_nat]; lia); (case hz => rw [sizeLine_eq]; lia))
  case R =>
  intro g
  refine' compRest_inv (fun i ys news => ∃ add, news = base4 ++ add ∧ (∀ p ∈ add3, p ∈ add) ∧ (∀ p ∈ add, p.1 ≠ la' ∧ p.1 ≠ lb) ∧ Lss add ys ((List.range i).map fun k => ((B0.take (blo + k + 1)).drop blo).reverse)) ⟨add3, rfl, fun _ h => h, hapadd3, .nil⟩ ?turn ?fin
  case turn =>
   rintro i v ys news I oI C oC D m₂ h tk E' hi ⟨t, rfl⟩ ⟨add, rfl, hsub, hap, hy⟩ hC hx F N off ne
   obtain ⟨nU, zU, hU⟩ := (g1.text blo (blo + i + 1) (by lia) (by lia)).2.2.2
   rw [show ((blo + i + 1 : Nat) : Int) = (blo : Int) + (i : Int) + 1 by lia] at hU
   (rw [hbase4] at N; dsimp only [List.cons_append, List.nil_append] at N)
   walk_at "my steps"
   refine' text_ ?zC ?zR ?za ?zb ?zc ?zd ?_
   walk_at "my cr"
   case za => first | walk_at "a" | exact Heap.IsList.at (by walk_at "a") (Fr.keep (by walk_at "a") _)
   case zb => walk_at "a"
   case zc => walk_at "a"
   case zd => walk_at "a"
   walk_at "my lift"
   walk_at "my steps"
   refine' up_ ?zC ?zR ?za ?zb ?_
   walk_at "my cr"
   case za => walk_at "a"
   case zb => walk_at "a"
   walk_at "my back"
   walk_at "my steps"
   rename News _ _ _ _ => N
   rename LCg.Off1 _ _ => o1
   rename StrsAre _ _ => sA
   refine' comp_end_add (base := base4) (add := add) (by walk_at "a") (by rw [hbase4]; exact N) (by rw [hbase4]; exact o1) off trivial ⟨_, rfl, fun p hp => .tail _ (hsub p hp), List.forall_mem_cons.mpr ⟨⟨Ne.symm (off1_mem o1 (la', listOf #[.ref Ta] 0) (by walk_at "my memA")), Ne.symm (off1_mem o1 (lb, listOf #[.ref Tb] 0) (by walk_at "my memA"))⟩, hap⟩, ?_⟩
   rw [List.range_succ, List.map_append]
   exact All2.snoc (hy.mono sub_cons) ⟨_, _, _, rfl, .head _, sA⟩
  case fin =>
  rintro vs4 news ⟨add4, rfl, hsubadd4, hapadd4, hvs4⟩
  intro D4 h1 tk1 F1 N1 oD4
  (rw [hbase4] at N1 oD4; dsimp only [List.cons_append, List.nil_append] at N1 oD4)
  rename_i zy1 zy2 zy3 zy4 zy5 zy6 zy7 zy8 zy9 zy10 zy11 zy12 zy13 zy14 zy15 zy16 zy17 zy18 zy19 zy20 zy21 zy22 zy23 zy24 zy25 zy26 zy27 zy28 zy29 zy30 zy31 zy32 zy33
  clear zy33 hbase4 base4 zy32 zy31 zy30 zy29 zy28 zy27 zy24 zy23 zy22 zy21 hapadd3 hsubadd3 zy20 zy19 hbase3 base3 zy18 zy17 zy16 zy15 zy14 zy13 zy12 zy11 T mb mg X zy10 zy9 zy5 gs1 gs0 gl1 gl0 fb fa s1 s0 la1 la0
  revert C la g0 g1 ha ha2 hb hb2 hQ R' zy1 zy2 zy3 zy4 zy6 zy7 zy8 hvs1 oD1 hvs2 oD2 hvs3 oD3 hsubadd4 hapadd4 hvs4 F1 N1 oD4
  revert vs3 add3 D3 zy25 zy26 g vs4 add4 D4 h1 tk1
  exact @zh)
 ⟩
noncomputable def zT (x : YY) : Prop := zQ.1 (x 4 0) (x 7 1) (x 0 2) (x 2 3) (x 0 4) (x 2 5) (x 4 6) (x 7 7) (x 0 8) (x 2 9) (x 0 10)
noncomputable def zC := pickY zT
@[irreducible] def vs3 : List Value := zC 4 0
@[irreducible] def add3 : List (Addr × Obj) := zC 7 1
def D3 : Addr := zC 0 2
@[irreducible] def zy25 : Heap := zC 2 3
def zy26 : Nat := zC 0 4
@[irreducible] def g : Heap := zC 2 5
@[irreducible] def vs4 : List Value := zC 4 6
@[irreducible] def add4 : List (Addr × Obj) := zC 7 7
def D4 : Addr := zC 0 8
@[irreducible] def h1 : Heap := zC 2 9
def tk1 : Nat := zC 0 10
theorem zA (h : zQ.1 vs3 add3 D3 zy25 zy26 g vs4 add4 D4 h1 tk1) : ∀ y, zT y := by with_unfolding_all exact pickY_spec zT h
theorem zK : zQ.1 vs3 add3 D3 zy25 zy26 g vs4 add4 D4 h1 tk1 := by
 intro C la g0 g1 ha ha2 hb hb2 hQ R' _ _ _ _ _ _ _ hvs1 oD1 hvs2 oD2 hvs3 oD3 hsubadd4 hapadd4 hvs4 F1 N1 oD4
 w_on
 w_strict (
  have X := Cx.X C
  obtain ⟨mg, mb, T⟩ := Cx.T C
  walk_at "my steps"
  rename News _ _ _ _ => N
  rename Fr _ _ _ _ => F
  rename Room _ _ => RR
  refine' cut_exec (win_for (h₀ := s.heap) (la := la') (lb := lb) (Ta := Ta) (Tb := Tb) (D1 := D1) (D2 := D2) (D3 := D3) (D4 := D4) (vs1 := vs1) (vs2 := vs2) (vs3 := vs3) (vs4 := vs4) (add0 := (Tb, t3 (0, alo, blo) _ _ _) :: (Ta, t3 (0, alo, blo) _ _ _) :: add4) (A0 := A0) (B0 := B0) (r0 := r0) (r1 := r1) (alo := alo) (ahi := ahi) (blo := blo) (bhi := bhi) C RR F ?N ?d5 ?d4 ?d3 ?d2 ?hTa ?hTb hvs1 hvs2 ?q3 ?q4 ?m1 ?m2 ?m3 ?m4 ?m5 ?m6 ?n1 ?n2 ?n3 ?n4 g0 g1 ha ha2 hb hb2) ?_
  case N => exact news_sub N (by walk_at "my sub")
  case d5 => with_unfolding_all assumption
  case d4 => with_unfolding_all assumption
  case d3 => with_unfolding_all assumption
  case d2 => with_unfolding_all assumption
  case hTa => exact .tail _ (.head _)
  case hTb => exact .head _
  case q3 => exact Lss.mono hvs3 fun p hp => .tail _ (.tail _ (hsubadd4 p hp))
  case q4 => exact Lss.mono hvs4 fun p hp => .tail _ (.tail _ hp)
  case m1 => walk_at "my look"
  case m2 => walk_at "my look"
  case m3 => walk_at "my look"
  case m4 => walk_at "my look"
  case m5 => walk_at "my look"
  case m6 => walk_at "my look"
  case n1 =>
   simp only [LCg.Off1, and_true]
   exact ⟨Ne.symm oD4.2.2.2.2.2.1, Ne.symm oD3.2.2.2.2.1, Ne.symm oD2.2.2.2.1, Ne.symm oD1.2.2.1, by lia, by lia, by lia, by lia, by lia⟩
  case n2 =>
   simp only [LCg.Off1, and_true]
   exact ⟨by lia, Ne.symm oD4.2.2.2.1, Ne.symm oD3.2.2.1, Ne.symm oD2.2.1, Ne.symm oD1.1, by lia, by lia, by lia, by lia, by lia⟩
  case n3 => exact List.forall_mem_cons.mpr ⟨by k_ne, List.forall_mem_cons.mpr ⟨by k_ne, fun p hp => (hapadd4 p hp).1⟩⟩
  case n4 => exact List.forall_mem_cons.mpr ⟨by k_ne, List.forall_mem_cons.mpr ⟨by k_ne, fun p hp => (hapadd4 p hp).2⟩⟩
  clear F N hvs1 hvs2 hvs3 hvs4 oD1 oD2 oD3 oD4 hapadd4
  rintro f s' ⟨rfl, h, tk, m, its1, k1, its2, k2, add, rfl, F, N, f1, f2, T1, T2⟩
  walk_at "my steps"
  refine' min_led3 (led := add) rfl RR ?F ?N ?D ?S T1 (by simp) ?_
  case F => walk_at "a"
  case N => walk_at "a"
  case D => k_mem
  case S => intro p hp; walk_at "my memA"
  intro h' tk' a1 x ta tb tc F1 N1 hL1 hm1
  walk_at "my steps"
  refine' min_led3 (led := add) rfl RR ?F ?N ?D ?S T2 (by simp) ?_
  case F => walk_at "a"
  case N => walk_at "a"
  case D => k_mem
  case S => intro p hp; walk_at "my memA"
  intro h' tk' a2 y ua ub uc F2 N2 hL2 hm2
  walk_at "my steps"
  rename News _ _ _ _ => N3
  have g1' := N3 (a1, t3 x ta tb tc) (by walk_at "my memA")
  have g2' := N3 (a2, t3 y ua ub uc) (by walk_at "my memA")
  exact hQ _ _ _ a1 a2 x y _ _ _ _ _ _ (Fr.keep (by walk_at "a")) (N3.fresh (.head _)) g1'.2.2 g2'.2.2 (N3.get (.head _)) g1'.1 g2'.1 hL1 hL2)
end zD
theorem zK : zQ.1 tk' zy1 zy2 zy3 zy4 zy5 zy14 lb Tb la' Ta vs1 D1 zy38 zy39 g vs2 D2 h1 tk1 := zD.zQ.2 fun vs3 add3 D3 zy25 zy26 g vs4 add4 D4 h1 tk1 => zD.zA zD.zK (putY [⟨4, vs3⟩, ⟨7, add3⟩, ⟨0, D3⟩, ⟨2, zy25⟩, ⟨0, zy26⟩, ⟨2, g⟩, ⟨4, vs4⟩, ⟨7, add4⟩, ⟨0, D4⟩, ⟨2, h1⟩, ⟨0, tk1⟩])
end zB
theorem zK : zP w { depth := d0, frames := fr0, guards := gd0, units := u0 } E s Q a l0 l1 v0 v1 r0 r1 A0 B0 alo ahi blo bhi t1 t2 t3' t4 := zB.zQ.2 fun tk' zy1 zy2 zy3 zy4 zy5 zy14 lb Tb la' Ta vs1 D1 zy38 zy39 g vs2 D2 h1 tk1 => zB.zA zB.zK (putY [⟨0, tk'⟩, ⟨3, zy1⟩, ⟨3, zy2⟩, ⟨3, zy3⟩, ⟨3, zy4⟩, ⟨3, zy5⟩, ⟨0, zy14⟩, ⟨0, lb⟩, ⟨0, Tb⟩, ⟨0, la'⟩, ⟨0, Ta⟩, ⟨4, vs1⟩, ⟨0, D1⟩, ⟨2, zy38⟩, ⟨0, zy39⟩, ⟨2, g⟩, ⟨4, vs2⟩, ⟨0, D2⟩, ⟨2, h1⟩, ⟨0, tk1⟩])
end cwindow_
end
theorem window_ {w : World} {A : Around} {E : Value → Shared → Prop} {s : Shared} {Q : Value → Shared → Prop} {a l0 l1 : Addr} {v0 v1 : List Value} {r0 r1 A0 B0 : List Str} {alo ahi blo bhi : Nat} {t1 t2 t3' t4 : Tok} : cwindow_.zP w A E s Q a l0 l1 v0 v1 r0 r1 A0 B0 alo ahi blo bhi t1 t2 t3' t4 := by
 intro C R
 obtain ⟨hd0, d0, fr0, gd0, u0⟩ := A
 have hh0 := Room.handled R
 dsimp only at hh0
 subst hh0
 exact cwindow_.zA cwindow_.zK (putY [⟨1, w⟩, ⟨0, d0⟩, ⟨10, fr0⟩, ⟨11, gd0⟩, ⟨0, u0⟩, ⟨9, E⟩, ⟨5, s⟩, ⟨9, Q⟩, ⟨0, a⟩, ⟨0, l0⟩, ⟨0, l1⟩, ⟨4, v0⟩, ⟨4, v1⟩, ⟨13, r0⟩, ⟨13, r1⟩, ⟨13, A0⟩, ⟨13, B0⟩, ⟨0, alo⟩, ⟨0, ahi⟩, ⟨0, blo⟩, ⟨0, bhi⟩, ⟨0, t1⟩, ⟨0, t2⟩, ⟨0, t3'⟩, ⟨0, t4⟩]) C R
end
local macro_rules | `(tactic| walk_at "getMethod ref") => `(tactic| (k_here; (with_reducible show wpAny _ _ (getMethod (Value.ref _) (PySem.Str.ofString "append") _) _ _ _); k_dflt (refine' listMethod_K ?zN ?zm PySem.F.slot_list_append PySem.F.type_list_append ?_; (case zN => walk_at "a"); (case zm => walk_at "my memA"))))
section
noncomputable def BlkAt (w : World) (a l0 l1 : Addr) (v0 v1 : List Value) (r0 r1 A0 B0 : List Str) (n : Nat) : Prop := ∀ {A : Around} {E : Value → Shared → Prop} {s : Shared} {Q : Value → Shared → Prop} {alo ahi blo bhi : Nat} {x1 x2 x3 x4 : Int} {t1 t2 t3' t4 : Tok}
  (C : Cx w s.heap) (R : Room A (13 + n)) (la : s.heap.IsList a #[.ref l0, .ref l1]) (la0 : s.heap.IsList l0 v0.toArray) (la1 : s.heap.IsList l1 v1.toArray)
  (hn : ahi - alo < n) (ha : alo ≤ ahi) (ha2 : ahi ≤ A0.length) (hb : blo ≤ bhi) (hb2 : bhi ≤ B0.length) (e1 : x1 = (alo : Int)) (e2 : x2 = (ahi : Int)) (e3 : x3 = (blo : Int)) (e4 : x4 = (bhi : Int))
  (hQ : ∀ h' tk l its k led ts, Keeps s.heap h' → (∀ p ∈ (l, listOf its k) :: led, h'.get? p.1 = some p.2 ∧ s.heap.get? p.1 = none) → T3s led its.toList ts → Blks A0 B0 alo ahi blo bhi ts → ts.length ≤ ahi - alo → Q (.ref l) { s with heap := h', toks := tk }),
  wpAny (model pw w) A (call (.ref 392) [.ref a, .int x1 t1, .int x2 t2, .int x3 t3', .int x4 t4]) Q E s
theorem bA9 {a h n i k : Nat} (hn : h - a < n + 1) (b1 : a ≤ i) (b2 : i + k ≤ h) (hk : 0 < k) : i - a < n := Nat.lt_of_lt_of_le (Nat.sub_lt_sub_right b1 (Nat.lt_of_lt_of_le (Nat.lt_add_of_pos_right hk) b2)) (Nat.le_of_lt_succ hn)
theorem bB9 {a h n i k : Nat} (hn : h - a < n + 1) (b1 : a ≤ i) (b2 : i + k ≤ h) (hk : 0 < k) : h - (i + k) < n :=
 have q := Nat.lt_of_le_of_lt b1 (Nat.lt_add_of_pos_right hk)
 Nat.lt_of_lt_of_le (Nat.sub_lt_sub_left (Nat.lt_of_lt_of_le q b2) q) (Nat.le_of_lt_succ hn)
theorem bC9 {a i k h t1 t2 : Nat} (hk : 0 < k) (z1 : t1 ≤ i - a) (z2 : t2 ≤ h - (i + k)) (b1 : a ≤ i) (b2 : i + k ≤ h) : t1 + (0 + 1) + t2 ≤ h - a := by
 obtain ⟨p, rfl⟩ := Nat.le.dest b1
 obtain ⟨q, rfl⟩ := Nat.le.dest b2
 rw [Nat.add_sub_cancel_left] at z1 z2
 rw [Nat.add_assoc a, Nat.add_assoc a, Nat.add_sub_cancel_left]
 clear b1 b2
 lia
noncomputable section
namespace cblocks_step
noncomputable def zP (w : World) (a l0 l1 : Addr) (v0 v1 : List Value) (r0 r1 A0 B0 : List Str) (n : Nat) (A : Around) (E : Value → Shared → Prop) (s : Shared) (Q : Value → Shared → Prop) (alo ahi blo bhi : Nat) (t1 t2 t3' t4 : Tok) : Prop := ∀ (g0 : RowOk r0 A0) (g1 : RowOk r1 B0) (s0 : StrsAre v0 r0) (s1 : StrsAre v1 r1) (ih : BlkAt w a l0 l1 v0 v1 r0 r1 A0 B0 n) (C : Cx w s.heap) (R : Room A (13 + (n + 1))) (la : s.heap.IsList a #[.ref l0, .ref l1]) (la0 : s.heap.IsList l0 v0.toArray) (la1 : s.heap.IsList l1 v1.toArray) (hn : ahi - alo < n + 1) (ha : alo ≤ ahi) (ha2 : ahi ≤ A0.length) (hb : blo ≤ bhi) (hb2 : bhi ≤ B0.length) (hQ : ∀ h' tk l its k led ts, Keeps s.heap h' → (∀ p ∈ (l, listOf its k) :: led, h'.get? p.1 = some p.2 ∧ s.heap.get? p.1 = none) → T3s led its.toList ts → Blks A0 B0 alo ahi blo bhi ts → ts.length ≤ ahi - alo → Q (.ref l) { s with heap := h', toks := tk }), wpAny (model pw w) A (call (.ref 392) [.ref a, .int alo t1, .int ahi t2, .int blo t3', .int bhi t4]) Q E s
noncomputable def zT (x : YY) : Prop := zP (x 1 0) (x 0 1) (x 0 2) (x 0 3) (x 4 4) (x 4 5) (x 13 6) (x 13 7) (x 13 8) (x 13 9) (x 0 10) { depth := (x 0 11), frames := (x 10 12), guards := (x 11 13), units := (x 0 14) } (x 9 15) (x 5 16) (x 9 17) (x 0 18) (x 0 19) (x 0 20) (x 0 21) (x 0 22) (x 0 23) (x 0 24) (x 0 25)
noncomputable def zC := pickY zT
@[irreducible] def w : World := zC 1 0
def a : Addr := zC 0 1
def l0 : Addr := zC 0 2
def l1 : Addr := zC 0 3
@[irreducible] def v0 : List Value := zC 4 4
@[irreducible] def v1 : List Value := zC 4 5
@[irreducible] def r0 : List Str := zC 13 6
@[irreducible] def r1 : List Str := zC 13 7
@[irreducible] def A0 : List Str := zC 13 8
@[irreducible] def B0 : List Str := zC 13 9
def n : Nat := zC 0 10
def d0 : Nat := zC 0 11
@[irreducible] def fr0 : Option (List Env) := zC 10 12
@[irreducible] def gd0 : Option (List Code) := zC 11 13
def u0 : Nat := zC 0 14
@[irreducible] def E : Value → Shared → Prop := zC 9 15
@[irreducible] def s : Shared := zC 5 16
@[irreducible] def Q : Value → Shared → Prop := zC 9 17
def alo : Nat := zC 0 18
def ahi : Nat := zC 0 19
def blo : Nat := zC 0 20
def bhi : Nat := zC 0 21
def t1 : Tok := zC 0 22
def t2 : Tok := zC 0 23
def t3' : Tok := zC 0 24
def t4 : Tok := zC 0 25
theorem zA (h : zP w a l0 l1 v0 v1 r0 r1 A0 B0 n { depth := d0, frames := fr0, guards := gd0, units := u0 } E s Q alo ahi blo bhi t1 t2 t3' t4) : ∀ y, zT y := by with_unfolding_all exact pickY_spec zT h
namespace zB
noncomputable def zQ : {zz : Addr → Addr → Tok → Tok → Tok → Nat → Nat → Nat → Heap → Nat → Heap → Nat → Addr → (Array Value) → Nat → (List (Addr × Obj)) → (List (Int × Int × Int)) → Prop // (∀ a1 a2 ta tb tc k i j zy12 tk h2 tk2 f1 its1 k1 led1 ts1, zz a1 a2 ta tb tc k i j zy12 tk h2 tk2 f1 its1 k1 led1 ts1) → zP w a l0 l1 v0 v1 r0 r1 A0 B0 n { depth := d0, frames := fr0, guards := gd0, units := u0 } E s Q alo ahi blo bhi t1 t2 t3' t4} := ⟨_, by
 intro zh
 intro g0 g1 s0 s1 ih C R la la0 la1 hn ha ha2 hb hb2 hQ
 unfold BlkAt at ih
 have fa := g0.few
 have fb := g1.few
 w_on
 w_strict (
  (rename Room _ _ => R0); refine wpAny_call ?_
  refine' enter [(Str.ofString "rows", .ref a), (Str.ofString "alo", .int alo t1), (Str.ofString "ahi", .int ahi t2), (Str.ofString "blo", .int blo t3'), (Str.ofString "bhi", .int bhi t4)] ?k1 ?k6 ?k7 ?k8 ?k9 ?kB ?_ ?c2 ?c3 ?c4 ?c5
  ( k_dflt ((case k1 => assumption); (case k6 => k_is); (case k7 => k_is); (case k8 => assumption); (case k9 => walk_at "my binds"); (case c5 => decide); (case kB => exact locs rfl); (case c2 => exact rfl); (case c3 => exact rfl); (case c4 => exact rfl); intro h' F' N' R'; (try dsimp only at F'); (try dsimp only)); have X := Cx.X (by assumption); obtain ⟨mg, mb, T⟩ := Cx.T (by assumption))
  walk_at "my steps"
  ·rename News _ _ _ _ => N
   exact hQ _ _ _ #[] 0 [] [] (Fr.keep (by walk_at "a")) (List.forall_mem_cons.mpr ⟨⟨N.get (.head _), N.fresh (.head _)⟩, List.forall_mem_nil _⟩) .nil (.empty _ _ _ _ (.inl (by lia))) (Nat.zero_le _)
  ·rename News _ _ _ _ => N
   exact hQ _ _ _ #[] 0 [] [] (Fr.keep (by walk_at "a")) (List.forall_mem_cons.mpr ⟨⟨N.get (.head _), N.fresh (.head _)⟩, List.forall_mem_nil _⟩) .nil (.empty _ _ _ _ (.inr (by lia))) (Nat.zero_le _)
  have ha' : alo < ahi := by lia
  have hb' : blo < bhi := by lia
  rename Fr _ _ _ _ => F
  rename Room _ _ => RR
  change Room _ (13 + n) at RR
  rename News _ _ _ _ => N
  refine' window_ ?C ?R ?la ?la0 ?la1 s0 s1 g0 g1 ha' ha2 hb' hb2 ?_
  case C => exact Cx.keeps C (Fr.keep F)
  case R => exact Room.le RR (by lia)
  case la => first | walk_at "a" | exact Heap.IsList.at (by walk_at "a") (Fr.keep (by walk_at "a") _)
  case la0 => first | walk_at "a" | exact Heap.IsList.at (by walk_at "a") (Fr.keep (by walk_at "a") _)
  case la1 => first | walk_at "a" | exact Heap.IsList.at (by walk_at "a") (Fr.keep (by walk_at "a") _)
  intro h1 tk1 T a1 a2 x y ta tb tc ua ub uc K nT n1 n2 eT ea1 ea2 hx hy
  obtain ⟨k, i, j, rfl, rfl, HB⟩ := win_law ha' ha2 hb' hb2 hx hy
  clear hx hy
  obtain ⟨F1, N1⟩ := news_join F N K [(T, { cls := .type "tuple", data := .seq #[.ref a1, .ref a2] }), (a1, { cls := .type "tuple", data := .seq #[.int (-(k : Int)) ta, .int i tb, .int j tc] }), (a2, { cls := .type "tuple", data := .seq #[.int (-(k : Int)) ua, .int i ub, .int j uc] })] (List.forall_mem_cons.mpr ⟨⟨eT, nT⟩, List.forall_mem_cons.mpr ⟨⟨ea1, n1⟩, List.forall_mem_cons.mpr ⟨⟨ea2, n2⟩, List.forall_mem_nil _⟩⟩⟩)
  clear F N K nT n1 n2 eT ea1 ea2
  simp only [List.cons_append, List.nil_append] at N1
  walk_at "my steps"
  rename News _ _ _ _ => N
  refine' ne_same3 (nn := 12 + n) (x := -(k : Int)) (y := i) (z := j) (by rw [show 12 + n + 1 = 13 + n by lia]; exact RR) N ?m1 ?m2 ?_
  case m1 => k_mem
  case m2 => k_mem
  walk_at "my steps"
  ·rename News _ _ _ _ => N
   have hk0 : k = 0 := by lia
   subst hk0
   exact hQ _ _ _ #[] 0 [] [] (Fr.keep (by walk_at "a")) (List.forall_mem_cons.mpr ⟨⟨N.get (.head _), N.fresh (.head _)⟩, List.forall_mem_nil _⟩) .nil (.none _ _ _ _ _ _ ha' hb' HB) (Nat.zero_le _)
  have hk : 0 < k := by lia
  obtain ⟨b1, b2, b3, b4, -, -, -⟩ := id HB
  rename Fr _ _ _ _ => F
  refine' ih (alo := alo) (ahi := i) (blo := blo) (bhi := j) ?C ?R ?la ?la0 ?la1 (bA9 hn b1 b2 hk) b1 (Nat.le_trans (Nat.le_trans (Nat.le_add_right i k) b2) ha2) b3 (Nat.le_trans (Nat.le_trans (Nat.le_add_right j k) b4) hb2) rfl rfl rfl rfl ?_
  case C => exact Cx.keeps C (Fr.keep F)
  case R => exact RR
  case la => first | walk_at "a" | exact Heap.IsList.at (by walk_at "a") (Fr.keep (by walk_at "a") _)
  case la0 => first | walk_at "a" | exact Heap.IsList.at (by walk_at "a") (Fr.keep (by walk_at "a") _)
  case la1 => first | walk_at "a" | exact Heap.IsList.at (by walk_at "a") (Fr.keep (by walk_at "a") _)
  intro h2 tk2 f1 its1 k1 led1 ts1 K1 H1 T1 B1 z1
  obtain ⟨F1, N1⟩ := news_join F News.nil K1 ((f1, listOf its1 k1) :: led1) H1
  clear F K1 H1
  simp only [List.append_nil] at N1
  rename_i zy1 zy2 zy3 zy4 zy5 zy6 zy7 zy8 zy9 zy10 zy11 zy12 zy13 zy14 zy15
  clear b3 zy14 zy13 zy11 zy10 zy9 zy8 zy7 zy6 zy5 uc ub ua T tk1 h1 zy4 zy3 zy1 mb mg X h' fb hb R0 s1 s0 g1 g0
  revert ih C la la0 la1 hn ha ha2 hb2 hQ fa zy2 ha' hb' RR HB zy15 hk b1 b2 b4 T1 B1 z1 F1 N1
  revert a1 a2 ta tb tc k i j zy12 tk h2 tk2 f1 its1 k1 led1 ts1
  exact @zh)
 ⟩
noncomputable def zT (x : YY) : Prop := zQ.1 (x 0 0) (x 0 1) (x 0 2) (x 0 3) (x 0 4) (x 0 5) (x 0 6) (x 0 7) (x 2 8) (x 0 9) (x 2 10) (x 0 11) (x 0 12) (x 29 13) (x 0 14) (x 7 15) (x 31 16)
noncomputable def zC := pickY zT
def a1 : Addr := zC 0 0
def a2 : Addr := zC 0 1
def ta : Tok := zC 0 2
def tb : Tok := zC 0 3
def tc : Tok := zC 0 4
def k : Nat := zC 0 5
def i : Nat := zC 0 6
def j : Nat := zC 0 7
@[irreducible] def zy12 : Heap := zC 2 8
def tk : Nat := zC 0 9
@[irreducible] def h2 : Heap := zC 2 10
def tk2 : Nat := zC 0 11
def f1 : Addr := zC 0 12
@[irreducible] def its1 : Array Value := zC 29 13
def k1 : Nat := zC 0 14
@[irreducible] def led1 : List (Addr × Obj) := zC 7 15
@[irreducible] def ts1 : List (Int × Int × Int) := zC 31 16
theorem zA (h : zQ.1 a1 a2 ta tb tc k i j zy12 tk h2 tk2 f1 its1 k1 led1 ts1) : ∀ y, zT y := by with_unfolding_all exact pickY_spec zT h
theorem zK : zQ.1 a1 a2 ta tb tc k i j zy12 tk h2 tk2 f1 its1 k1 led1 ts1 := by
 intro ih C la la0 la1 hn ha ha2 hb2 hQ fa _ ha' hb' RR HB _ hk b1 b2 b4 T1 B1 z1 F1 N1
 w_on
 w_strict (
  have X := Cx.X (by assumption)
  obtain ⟨mg, mb, T⟩ := Cx.T (by assumption)
  walk_at "my steps"
  rename Fr _ _ _ _ => F
  rename News _ _ _ _ => N
  refine' ih (alo := i + k) (ahi := ahi) (blo := j + k) (bhi := bhi) ?C ?R ?la ?la0 ?la1 (bB9 hn b1 b2 hk) b2 ha2 b4 hb2 (by first | rfl | lia) rfl (by first | rfl | lia) rfl ?_
  case C => exact Cx.keeps C (Fr.keep F)
  case R => exact RR
  case la => first | walk_at "a" | exact Heap.IsList.at (by walk_at "a") (Fr.keep (by walk_at "a") _)
  case la0 => first | walk_at "a" | exact Heap.IsList.at (by walk_at "a") (Fr.keep (by walk_at "a") _)
  case la1 => first | walk_at "a" | exact Heap.IsList.at (by walk_at "a") (Fr.keep (by walk_at "a") _)
  intro h3 tk3 f2 its2 k2 led2 ts2 K2 H2 T2 B2 z2
  obtain ⟨F1, N1⟩ := news_join F N K2 ((f2, listOf its2 k2) :: led2) H2
  clear F N K2 H2
  replace N1 := news_swap N1
  have y1 : its1.toList.length ≤ 10 := by rw [All2.length T1]; exact Nat.le_trans z1 (Nat.le_trans (Nat.sub_le _ _) (Nat.le_trans (Nat.le_trans (Nat.le_add_right i k) b2) (Nat.le_trans ha2 (Nat.le_trans fa (by decide)))))
  have y2 : its2.toList.length ≤ 10 := by rw [All2.length T2]; exact Nat.le_trans z2 (Nat.le_trans (Nat.sub_le _ _) (Nat.le_trans ha2 (Nat.le_trans fa (by decide))))
  walk_at "my steps"
  rename News _ _ _ _ => N
  simp only [Int.neg_neg] at N
  refine' hQ _ _ _ _ _ ((_, t3 ((i : Int), (j : Int), (k : Int)) _ _ _) :: (led2 ++ led1)) (ts1 ++ [((i : Int), (j : Int), (k : Int))] ++ ts2) (Fr.keep (by walk_at "a")) ?H ?T (.step _ _ _ _ k i j ts1 ts2 ha' hb' HB hk B1 B2) ?z
  case H => exact news_give N (by walk_at "my sub")
  case z => simp only [List.length_append, List.length_cons, List.length_nil]; exact bC9 hk z1 z2 b1 b2
  case T => exact All2.append (All2.append (T3s.mono T1 fun p hp => .tail _ (List.mem_append_right _ hp)) (.cons _ _ _ _ ⟨_, _, _, _, rfl, .head _⟩ .nil)) (T3s.mono T2 fun p hp => .tail _ (List.mem_append_left _ hp)))
end zB
theorem zK : zP w a l0 l1 v0 v1 r0 r1 A0 B0 n { depth := d0, frames := fr0, guards := gd0, units := u0 } E s Q alo ahi blo bhi t1 t2 t3' t4 := zB.zQ.2 fun a1 a2 ta tb tc k i j zy12 tk h2 tk2 f1 its1 k1 led1 ts1 => zB.zA zB.zK (putY [⟨0, a1⟩, ⟨0, a2⟩, ⟨0, ta⟩, ⟨0, tb⟩, ⟨0, tc⟩, ⟨0, k⟩, ⟨0, i⟩, ⟨0, j⟩, ⟨2, zy12⟩, ⟨0, tk⟩, ⟨2, h2⟩, ⟨0, tk2⟩, ⟨0, f1⟩, ⟨29, its1⟩, ⟨0, k1⟩, ⟨7, led1⟩, ⟨31, ts1⟩])
end cblocks_step
end
theorem blocks_step {w : World} {a l0 l1 : Addr} {v0 v1 : List Value} {r0 r1 A0 B0 : List Str} {n : Nat} {A : Around} {E : Value → Shared → Prop} {s : Shared} {Q : Value → Shared → Prop} {alo ahi blo bhi : Nat} {t1 t2 t3' t4 : Tok} : cblocks_step.zP w a l0 l1 v0 v1 r0 r1 A0 B0 n A E s Q alo ahi blo bhi t1 t2 t3' t4 := by
 intro g0 g1 s0 s1 ih C R
 obtain ⟨hd0, d0, fr0, gd0, u0⟩ := A
 have hh0 := Room.handled R
 dsimp only at hh0
 subst hh0
 exact cblocks_step.zA cblocks_step.zK (putY [⟨1, w⟩, ⟨0, a⟩, ⟨0, l0⟩, ⟨0, l1⟩, ⟨4, v0⟩, ⟨4, v1⟩, ⟨13, r0⟩, ⟨13, r1⟩, ⟨13, A0⟩, ⟨13, B0⟩, ⟨0, n⟩, ⟨0, d0⟩, ⟨10, fr0⟩, ⟨11, gd0⟩, ⟨0, u0⟩, ⟨9, E⟩, ⟨5, s⟩, ⟨9, Q⟩, ⟨0, alo⟩, ⟨0, ahi⟩, ⟨0, blo⟩, ⟨0, bhi⟩, ⟨0, t1⟩, ⟨0, t2⟩, ⟨0, t3'⟩, ⟨0, t4⟩]) g0 g1 s0 s1 ih C R
theorem blocks_ {w : World} {a l0 l1 : Addr} {v0 v1 : List Value} {r0 r1 A0 B0 : List Str} (g0 : RowOk r0 A0) (g1 : RowOk r1 B0) (s0 : StrsAre v0 r0) (s1 : StrsAre v1 r1) : ∀ (n : Nat)
  {A : Around} {E : Value → Shared → Prop} {s : Shared} {Q : Value → Shared → Prop} {alo ahi blo bhi : Nat} {x1 x2 x3 x4 : Int} {t1 t2 t3' t4 : Tok}
  (C : Cx w s.heap) (R : Room A (13 + n)) (la : s.heap.IsList a #[.ref l0, .ref l1]) (la0 : s.heap.IsList l0 v0.toArray) (la1 : s.heap.IsList l1 v1.toArray)
  (hn : ahi - alo < n) (ha : alo ≤ ahi) (ha2 : ahi ≤ A0.length) (hb : blo ≤ bhi) (hb2 : bhi ≤ B0.length) (e1 : x1 = (alo : Int)) (e2 : x2 = (ahi : Int)) (e3 : x3 = (blo : Int)) (e4 : x4 = (bhi : Int))
  (hQ : ∀ h' tk l its k led ts, Keeps s.heap h' → (∀ p ∈ (l, listOf its k) :: led, h'.get? p.1 = some p.2 ∧ s.heap.get? p.1 = none) → T3s led its.toList ts → Blks A0 B0 alo ahi blo bhi ts → ts.length ≤ ahi - alo → Q (.ref l) { s with heap := h', toks := tk }),
  wpAny (model pw w) A (call (.ref 392) [.ref a, .int x1 t1, .int x2 t2, .int x3 t3', .int x4 t4]) Q E s := by
 intro n
 induction n with
 | zero => intros; lia
 | succ n ih =>
 intro A E s Q alo ahi blo bhi x1 x2 x3 x4 t1 t2 t3' t4 C R la la0 la1 hn ha ha2 hb hb2 e1 e2 e3 e4 hQ
 subst e1 e2 e3 e4
 exact blocks_step g0 g1 s0 s1 ih C R la la0 la1 hn ha ha2 hb hb2 hQ
end
section
inductive ChainEnd (w : World) (h₀ : Heap) (L d b : Addr) (X : List (Addr × Obj)) (sv : Value) (ys : List Str) (s : Shared) (f : Flow) (s' : Shared) : Prop
 | mk (e0 : f = .next) (h tk m o P : _) (e1 : s' = { s with heap := h, toks := tk }) (e2 : Fr h₀ L h m) (e3 : News h₀ L h ((d, o) :: (X ++ ledP P))) (e4 : o.IsDictOf (PySem.strKind pw w) (kvsP P)) (e5 : PlInv ys ys.length P) (e6 : m (Str.ofString "self") = some sv) (e7 : m (Str.ofString "b") = some (.ref b)) (e8 : (∀ p ∈ ledP P, ∀ q ∈ (d, o) :: X, p.1 ≠ q.1)) : ChainEnd w h₀ L d b X sv ys s f s'
inductive ChJ (w : World) (b : Addr) (d : Addr) (X : List (Addr × Obj)) (ys : List Str) (sv : Value) (k : Nat) (m : Str → Option Value) (news : List (Addr × Obj)) : Prop
 | mk (o P : _) (e0 : news = (d, o) :: (X ++ ledP P)) (e1 : o.IsDictOf (PySem.strKind pw w) (kvsP P)) (e2 : PlInv ys k P) (e3 : m (Str.ofString "self") = some sv) (e4 : m (Str.ofString "b") = some (.ref b)) (e5 : m (Str.ofString "b2j") = some (.ref d)) (e6 : (∀ p ∈ ledP P, ∀ q ∈ (d, o) :: X, p.1 ≠ q.1)) : ChJ w b d X ys sv k m news
noncomputable section
namespace cchain_for
noncomputable def zP (w : World) (d0 u0 : Nat) (fr0 : Option (List Env)) (gd0 : Option (List Code)) (s : Shared) (h₀ : Heap) (L b d : Addr) (m : Str → Option Value) (o : Obj) (X : List (Addr × Obj)) (v1 : List Value) (kb : Nat) (ys : List Str) (sv : Value) : Prop := ∀ (C : Cx w h₀) (F : Fr h₀ L s.heap m) (N : News h₀ L s.heap ((d, o) :: X)) (lb : h₀.get? b = some (listOf v1.toArray kb)) (sb : StrsAre v1 ys) (zy : ys.length ≤ 6) (hd : o.IsDictOf (PySem.strKind pw w) []) (lo : (d == sysModules) = false) (m1 : m (Str.ofString "self") = some sv) (m2 : m (Str.ofString "b") = some (.ref b)) (m3 : m (Str.ofString "b2j") = some (.ref d)) (hX : ∀ p ∈ X, p.1 ≠ d), wpAny (model pw w) (Around.deeper { depth := d0, frames := fr0, guards := gd0, units := u0 } (envOf (Str.ofString "SequenceMatcher.__chain_b") (fScope (nth (bodyOf (nth pw.main.body 5)) 5)) L 188 (Value.ref 187))) (exec (nth (bodyOf (nth (bodyOf (nth pw.main.body 5)) 5)) 2) (envOf (Str.ofString "SequenceMatcher.__chain_b") (fScope (nth (bodyOf (nth pw.main.body 5)) 5)) L 188 (Value.ref 187)))
   (ChainEnd w h₀ L d b X sv ys s) (fun _ _ => False) s
noncomputable def zT (x : YY) : Prop := zP (x 1 0) (x 0 1) (x 0 2) (x 10 3) (x 11 4) (x 5 5) (x 2 6) (x 0 7) (x 0 8) (x 0 9) (x 6 10) (x 3 11) (x 7 12) (x 4 13) (x 0 14) (x 13 15) (x 32 16)
noncomputable def zC := pickY zT
@[irreducible] def w : World := zC 1 0
def d0 : Nat := zC 0 1
def u0 : Nat := zC 0 2
@[irreducible] def fr0 : Option (List Env) := zC 10 3
@[irreducible] def gd0 : Option (List Code) := zC 11 4
@[irreducible] def s : Shared := zC 5 5
@[irreducible] def h₀ : Heap := zC 2 6
def L : Addr := zC 0 7
def b : Addr := zC 0 8
def d : Addr := zC 0 9
def m : Str → Option Value := zC 6 10
@[irreducible] def o : Obj := zC 3 11
@[irreducible] def X : List (Addr × Obj) := zC 7 12
@[irreducible] def v1 : List Value := zC 4 13
def kb : Nat := zC 0 14
@[irreducible] def ys : List Str := zC 13 15
@[irreducible] def sv : Value := zC 32 16
theorem zA (h : zP w d0 u0 fr0 gd0 s h₀ L b d m o X v1 kb ys sv) : ∀ y, zT y := by with_unfolding_all exact pickY_spec zT h
theorem zK : zP w d0 u0 fr0 gd0 s h₀ L b d m o X v1 kb ys sv := by
 intro C F N lb sb zy hd lo m1 m2 m3 hX
 have lv := strs_len sb
 w_on
 w_strict (
  have XK := Cx.X C
  obtain ⟨mg, mb, T⟩ := Cx.T C
  show wpAny _ _ (exec (Stmt.For _ _ _ _ _) _) _ _ _
  refine wpAny_For ?_ (by intro _; rfl)
  walk_at "my steps"
  refine' for_enum (L := L) (its := v1.toArray) (n := kb) rfl rfl (F.keep _ _ lb) (ChJ w b d X ys sv) F N ?je (.inl ⟨_, lb⟩) ?te ?de
  case je => exact ⟨o, [], by simp [ledP], hd, plInv_nil _, m1, m2, m3, fun _ h => (nomatch h)⟩
  case de =>
   rintro m news h tk ⟨o, P, rfl, hd, I, m1, m2, m3, hap⟩ F N
   rw [List.size_toArray, lv] at I
   exact ⟨rfl, h, tk, m, o, P, rfl, F, N, hd, I, m1, m2, hap⟩
  case te =>
   clear F N m1 m2 m3 hd
   rintro i x t oe ot e it m news h tk hx ⟨o, P, rfl, hd, I, m1, m2, m3, hap⟩ hne hni hei F N
   obtain ⟨c, tc, rfl, hc⟩ := strs_item sb (by simpa using hx)
   have zi : i < ys.length := (List.getElem?_eq_some_iff.mp hc).1
   walk_at "my steps"
   rename Fr _ _ _ _ => F
   rename News _ _ _ _ => N
   rename _ < _ ∧ _ => l1
   obtain ⟨l0, rfl⟩ := name_head N
   have zl : ∀ p ∈ X ++ ledP P, p.1 ≠ l0 := fun p hp => Nat.ne_of_lt (allLt_mem l1.2.2.2 p hp)
   have le0 : e ≠ l0 := Nat.ne_of_lt l1.1
   have lit0 : it ≠ l0 := Nat.ne_of_lt l1.2.1
   have ld0 : d ≠ l0 := Nat.ne_of_lt l1.2.2.1
   have hde : d ≠ e := hne.1
   have hdit : d ≠ it := hni.1
   have heX : ∀ p ∈ X ++ ledP P, p.1 ≠ e := allNe_iff.mp hne.2
   have hitX : ∀ p ∈ X ++ ledP P, p.1 ≠ it := allNe_iff.mp hni.2
   have hXd : ∀ p ∈ X ++ ledP P, p.1 ≠ d := fun p hp => (List.mem_append.mp hp).elim (hX p) fun h => hap p h _ (.head _)
   clear l1
   refine' sd_ (k := c) F N (by k_mem) ((l0, listOf #[] 0) :: (e, oe) :: (it, ot) :: (X ++ ledP P)) ?hr hd (strKind_is _ _ _ _) lo ?z (PySem.F.args_dict_setdefault_3 _ _ _) ?s1 ?s2
   case hr =>
    refine List.forall_mem_cons.mpr ⟨⟨.head _, Ne.symm ld0⟩, List.forall_mem_cons.mpr ⟨⟨.tail _ (.head _), Ne.symm hde⟩, List.forall_mem_cons.mpr ⟨⟨.tail _ (.tail _ (.head _)), Ne.symm hdit⟩, fun p hp => ⟨.tail _ (.tail _ (.tail _ (.tail _ hp))), hXd p hp⟩⟩⟩⟩
   case z => have := I.few; unfold kvsP; rw [List.length_map]; lia
   case s1 =>
    intro v hv
    obtain ⟨l, its, n, hm, rfl⟩ := kvs_find hv
    have hm2 : (l, listOf its.toArray n) ∈ X ++ ledP P := List.mem_append_right _ (ledP_in hm)
    have hlX : ∀ p ∈ X, p.1 ≠ l := fun p hp q => hap _ (ledP_in hm) p (.tail _ hp) q.symm
    have hle : l ≠ e := heX _ hm2
    have hlit : l ≠ it := hitX _ hm2
    have hld : l ≠ d := hXd _ hm2
    walk_at "my steps"
    rename Fr _ _ _ _ => F
    rename News _ _ _ _ => N
    refine' append_inZ F N (by walk_at "my memA") ((e, oe) :: (it, ot) :: (d, o) :: (X ++ (ledP P).filter fun p => p.1 ≠ l)) ?hr ?z ?_
    case hr =>
     refine List.forall_mem_cons.mpr ⟨⟨.tail _ (.head _), Ne.symm hle⟩, List.forall_mem_cons.mpr ⟨⟨.tail _ (.tail _ (.head _)), Ne.symm hlit⟩, List.forall_mem_cons.mpr ⟨⟨.tail _ (.tail _ (.tail _ (.head _))), Ne.symm hld⟩, fun p hp => ?_⟩⟩⟩
     rcases List.mem_append.mp hp with hp | hp
     ·exact ⟨.tail _ (.tail _ (.tail _ (.tail _ (List.mem_append_left _ hp)))), hlX p hp⟩
     ·have := List.mem_filter.mp hp
      exact ⟨.tail _ (.tail _ (.tail _ (.tail _ (List.mem_append_right _ this.1)))), by simpa using this.2⟩
    case z => have := I.small _ hm; rw [List.size_toArray]; show its.length ≤ _; dsimp only at this; lia
    intro h' F N
    walk_at "my steps"
    refine' fnext2 (news' := (d, o) :: (X ++ ledP (P.map (plUp c l (its ++ [.int (i : Int) t]) (n + 1))))) (by walk_at "a") (by walk_at "a") ?wj ?ws ?w1 ?w2
    case ws =>
     refine List.forall_mem_cons.mpr ⟨.tail _ (.head _), List.forall_mem_cons.mpr ⟨.tail _ (.tail _ (.head _)), List.forall_mem_cons.mpr ⟨.tail _ (.tail _ (.tail _ (.head _))), fun p hp => ?_⟩⟩⟩
     rcases List.mem_append.mp hp with hp | hp
     ·exact .tail _ (.tail _ (.tail _ (.tail _ (List.mem_append_left _ hp))))
     ·rcases plUp_sub I.keys I.addrs hm p hp with rfl | ⟨hp, hpl⟩
      ·exact .head _
      ·exact .tail _ (.tail _ (.tail _ (.tail _ (List.mem_append_right _ (List.mem_filter.mpr ⟨hp, by simpa using hpl⟩)))))
    case w1 =>
     refine allNe_iff.mpr (List.forall_mem_cons.mpr ⟨hde, fun p hp => ?_⟩)
     rcases List.mem_append.mp hp with hp | hp
     ·exact heX p (List.mem_append_left _ hp)
     ·rcases plUp_sub I.keys I.addrs hm p hp with rfl | ⟨hp, hpl⟩
      ·exact hle
      ·exact heX p (List.mem_append_right _ hp)
    case w2 =>
     refine allNe_iff.mpr (List.forall_mem_cons.mpr ⟨hdit, fun p hp => ?_⟩)
     rcases List.mem_append.mp hp with hp | hp
     ·exact hitX p (List.mem_append_left _ hp)
     ·rcases plUp_sub I.keys I.addrs hm p hp with rfl | ⟨hp, hpl⟩
      ·exact hlit
      ·exact hitX p (List.mem_append_right _ hp)
    case wj =>
     refine' ⟨o, _, rfl, by rw [plUp_kvs I.keys hm]; exact hd, plInv_up I hc hm t _, ?l1, ?l2, ?l3, ?ap⟩
     case l1 => walk_at "my look"
     case l2 => walk_at "my look"
     case l3 => walk_at "my look"
     case ap =>
      intro p hp q hq
      rcases plUp_sub I.keys I.addrs hm p hp with rfl | ⟨hp, hpl⟩
      ·exact hap _ (ledP_in hm) q hq
      ·exact hap p hp q hq
   case s2 =>
    intro hn h' o' F N hd'
    rw [stored_absent hn] at hd'
    walk_at "my steps"
    rename News _ _ _ _ => N
    refine' fnext2 (news' := (d, o') :: (X ++ ledP (P ++ [(c, l0, [.int (i : Int) t], 1)]))) (by walk_at "a") N ?wj ?ws ?w1 ?w2
    case ws =>
     refine List.forall_mem_cons.mpr ⟨.tail _ (.tail _ (.head _)), List.forall_mem_cons.mpr ⟨.tail _ (.tail _ (.tail _ (.head _))), List.forall_mem_cons.mpr ⟨.head _, fun p hp => ?_⟩⟩⟩
     rcases List.mem_append.mp hp with hp | hp
     ·exact .tail _ (.tail _ (.tail _ (.tail _ (List.mem_append_left _ hp))))
     ·unfold ledP at hp
      rw [List.map_append] at hp
      rcases List.mem_append.mp hp with hp | hp
      ·exact .tail _ (.tail _ (.tail _ (.tail _ (List.mem_append_right _ hp))))
      ·rw [List.mem_singleton.mp hp]; exact .tail _ (.head _)
    case w1 =>
     refine allNe_iff.mpr (List.forall_mem_cons.mpr ⟨hde, fun p hp => ?_⟩)
     rcases List.mem_append.mp hp with hp | hp
     ·exact heX p (List.mem_append_left _ hp)
     ·unfold ledP at hp
      rw [List.map_append] at hp
      rcases List.mem_append.mp hp with hp | hp
      ·exact heX p (List.mem_append_right _ hp)
      ·rw [List.mem_singleton.mp hp]; exact Ne.symm le0
    case w2 =>
     refine allNe_iff.mpr (List.forall_mem_cons.mpr ⟨hdit, fun p hp => ?_⟩)
     rcases List.mem_append.mp hp with hp | hp
     ·exact hitX p (List.mem_append_left _ hp)
     ·unfold ledP at hp
      rw [List.map_append] at hp
      rcases List.mem_append.mp hp with hp | hp
      ·exact hitX p (List.mem_append_right _ hp)
      ·rw [List.mem_singleton.mp hp]; exact Ne.symm lit0
    case wj =>
     refine' ⟨o', _, rfl, ?ok, plInv_new I hc (kvs_none hn) (fun e' he' q => zl (e'.2.1, listOf e'.2.2.1.toArray e'.2.2.2) (List.mem_append_right _ (List.mem_map.mpr ⟨e', he', rfl⟩)) q) t 1, ?l1, ?l2, ?l3, ?ap⟩
     case ok => unfold kvsP at *; rw [List.map_append]; exact hd'
     case l1 => walk_at "my look"
     case l2 => walk_at "my look"
     case l3 => walk_at "my look"
     case ap =>
      intro p hp q hq
      unfold ledP at hp
      rw [List.map_append] at hp
      rcases List.mem_append.mp hp with hp | hp
      ·rcases List.mem_cons.mp hq with rfl | hq
       ·exact hap p hp (d, o) (.head _)
       ·exact hap p hp q (.tail _ hq)
      ·rw [List.mem_singleton.mp hp]
       rcases List.mem_cons.mp hq with rfl | hq
       ·exact Ne.symm ld0
       ·exact Ne.symm (zl q (List.mem_append_left _ hq)))
end cchain_for
end
theorem chain_for {w : World} {d0 u0 : Nat} {fr0 : Option (List Env)} {gd0 : Option (List Code)} {s : Shared} {h₀ : Heap} {L b d : Addr} {m : Str → Option Value} {o : Obj} {X : List (Addr × Obj)} {v1 : List Value} {kb : Nat} {ys : List Str} {sv : Value} : cchain_for.zP w d0 u0 fr0 gd0 s h₀ L b d m o X v1 kb ys sv := cchain_for.zA cchain_for.zK (putY [⟨1, w⟩, ⟨0, d0⟩, ⟨0, u0⟩, ⟨10, fr0⟩, ⟨11, gd0⟩, ⟨5, s⟩, ⟨2, h₀⟩, ⟨0, L⟩, ⟨0, b⟩, ⟨0, d⟩, ⟨6, m⟩, ⟨3, o⟩, ⟨7, X⟩, ⟨4, v1⟩, ⟨0, kb⟩, ⟨13, ys⟩, ⟨32, sv⟩])
end
section
noncomputable def smDict (P : Params) (k0 k1 k2 k3 k4 k5 k6 k7 k8 k9 : Tok) (a b : Addr) (mb : Value) (d jk jp : Addr) : List DictEntry :=
 [⟨PyData.keyHash P (Str.ofString "isjunk"), .str (Str.ofString "isjunk") k0, .none⟩, ⟨PyData.keyHash P (Str.ofString "a"), .str (Str.ofString "a") k1, .ref a⟩, ⟨PyData.keyHash P (Str.ofString "b"), .str (Str.ofString "b") k2, .ref b⟩,
  ⟨PyData.keyHash P (Str.ofString "autojunk"), .str (Str.ofString "autojunk") k3, .bool true⟩, ⟨PyData.keyHash P (Str.ofString "matching_blocks"), .str (Str.ofString "matching_blocks") k4, mb⟩, ⟨PyData.keyHash P (Str.ofString "opcodes"), .str (Str.ofString "opcodes") k5, .none⟩,
  ⟨PyData.keyHash P (Str.ofString "fullbcount"), .str (Str.ofString "fullbcount") k6, .none⟩, ⟨PyData.keyHash P (Str.ofString "b2j"), .str (Str.ofString "b2j") k7, .ref d⟩, ⟨PyData.keyHash P (Str.ofString "bjunk"), .str (Str.ofString "bjunk") k8, .ref jk⟩,
  ⟨PyData.keyHash P (Str.ofString "bpopular"), .str (Str.ofString "bpopular") k9, .ref jp⟩]
structure SMat (w : World) (a b : Addr) (mb : Value) (ys : List Str) (x dx jk d : Addr) (o : Obj) (P : List PlE) (es : List DictEntry) (oj : Obj) : Prop where
 dict : ∃ k0 k1 k2 k3 k4 k5 k6 k7 k8 k9 jp, es = smDict w.params k0 k1 k2 k3 k4 k5 k6 k7 k8 k9 a b mb d jk jp
 junk : ∃ led, oj = { cls := .type "set", data := .set #[] 0 (SetTable.fresh 0 0 led) }
 b2j : o.IsDictOf (PySem.strKind pw w) (kvsP P)
 inv : PlInv ys ys.length P
 low : (d == sysModules) = false
theorem instAt_keeps {h h' : Heap} {x C : Addr} {ox : Obj} {od : Option Obj} (I : InstAt h x ox C od) (k : ∀ b o, h.get? b = some o → h'.get? b = some o) : InstAt h' x ox C od := by
 refine ⟨k _ _ I.at_, I.cls, I.no, ?_⟩
 have := I.dict
 revert this
 cases ox.dict <;> cases od <;> intro z
 ·exact z
 ·exact z
 ·exact z
 ·exact k _ _ z
theorem sm_inst {h : Heap} {x dx : Addr} {es : List DictEntry} {n : Nat} (h1 : h.get? x = some (instObj 242 dx)) (h2 : h.get? dx = some (dictOf es n)) : InstAt h x (instObj 242 dx) 242 (some (dictOf es n)) := ⟨h1, rfl, rfl, h2⟩
end
section
theorem wpTok {α : Type} {M : Model} {A : Around} {x : Sem α} {Q : α → Shared → Prop} {E : Value → Shared → Prop} {h : Heap} {g : Array GenState} {d : Drawn} {t : Nat} {o : OsState} (H : ∀ tk : Nat, wpAny M A x Q E { heap := h, gens := g, drawn := d, toks := tk, os := o }) :
  wpAny M A x Q E { heap := h, gens := g, drawn := d, toks := t, os := o } := H t
noncomputable section
namespace cmake_
noncomputable def zP (w : World) (A : Around) (E : Value → Shared → Prop) (s : Shared) (Q : Value → Shared → Prop) (a b : Addr) (v0 : List Value) (xs ys : List Str) (ka kb : Nat) : Prop := ∀ {v1 : List Value} (C : Cx w s.heap) (R : Room A 12) (la : s.heap.get? a = some (listOf v0.toArray ka)) (lb : s.heap.get? b = some (listOf v1.toArray kb)) (sa : StrsAre v0 xs) (sb : StrsAre v1 ys) (z : ys.length ≤ 6) (hQ : ∀ h' tk x dx jk d o P es n oj, Keeps s.heap h' → (∀ p ∈ (x, instObj 242 dx) :: (dx, dictOf es n) :: (jk, oj) :: (d, o) :: ledP P, h'.get? p.1 = some p.2 ∧ s.heap.get? p.1 = none) → SMat w a b .none ys x dx jk d o P es oj → (∀ p ∈ (x, instObj 242 dx) :: (jk, oj) :: (d, o) :: ledP P, p.1 ≠ dx) → Q (.ref x) { s with heap := h', toks := tk }), wpAny (model pw w) A (call (.ref 242) [.none, .ref a, .ref b]) Q E s
noncomputable def zT (x : YY) : Prop := zP (x 1 0) { depth := (x 0 1), frames := (x 10 2), guards := (x 11 3), units := (x 0 4) } (x 9 5) { heap := (x 2 6), gens := (x 33 7), drawn := (x 34 8), toks := (x 0 9), os := (x 35 10) } (x 9 11) (x 0 12) (x 0 13) (x 4 14) (x 13 15) (x 13 16) (x 0 17) (x 0 18)
noncomputable def zC := pickY zT
@[irreducible] def w : World := zC 1 0
def d0 : Nat := zC 0 1
@[irreducible] def fr0 : Option (List Env) := zC 10 2
@[irreducible] def gd0 : Option (List Code) := zC 11 3
def u0 : Nat := zC 0 4
@[irreducible] def E : Value → Shared → Prop := zC 9 5
@[irreducible] def h0 : Heap := zC 2 6
@[irreducible] def g0 : Array GenState := zC 33 7
@[irreducible] def dr0 : Drawn := zC 34 8
def tk0 : Nat := zC 0 9
@[irreducible] def os0 : OsState := zC 35 10
@[irreducible] def Q : Value → Shared → Prop := zC 9 11
def a : Addr := zC 0 12
def b : Addr := zC 0 13
@[irreducible] def v0 : List Value := zC 4 14
@[irreducible] def xs : List Str := zC 13 15
@[irreducible] def ys : List Str := zC 13 16
def ka : Nat := zC 0 17
def kb : Nat := zC 0 18
theorem zA (h : zP w { depth := d0, frames := fr0, guards := gd0, units := u0 } E { heap := h0, gens := g0, drawn := dr0, toks := tk0, os := os0 } Q a b v0 xs ys ka kb) : ∀ y, zT y := by with_unfolding_all exact pickY_spec zT h
namespace zB
noncomputable def zQ : {zz : Heap → Nat → Heap → Nat → Heap → Heap → Nat → Heap → Nat → Obj → Heap → Nat → Obj → Heap → Prop // (∀ h1 zy2 zy3 zy4 zy5 zy6 zy7 zy8 zy9 oL1 h2 tk oL2 h3, zz h1 zy2 zy3 zy4 zy5 zy6 zy7 zy8 zy9 oL1 h2 tk oL2 h3) → zP w { depth := d0, frames := fr0, guards := gd0, units := u0 } E { heap := h0, gens := g0, drawn := dr0, toks := tk0, os := os0 } Q a b v0 xs ys ka kb} := ⟨_, by
 intro zh
 intro v1 C R la lb sa sb z hQ
 w_on
 w_strict (
  (rename Room _ _ => R0)
  refine wpAny_call ?_
  refine' make_core (init := .ref 160) (makes_of C.X ?i1) (looks_findIn C.X ?i2) (fun self => bind_fn C.X self ?i3) (.inl ?i4) ?_
  case i1 => k_is
  case i2 => k_is
  case i3 => k_is
  case i4 => rfl
  have C2 : Cx w ((h0.push emptyDict).push (instObj 242 h0.objs.size)) := Cx.keeps C fun b o e => Heap.get?_push_of_some _ (Heap.get?_push_of_some _ e)
  have XX := Cx.X C2
  have R1 := Room.under R0 (Nat.le_of_eq (make_weight 242 [.none, .ref a, .ref b] [])) (make_units 242 [.none, .ref a, .ref b] [])

  refine' enter [(Str.ofString "self", .ref (h0.objs.size + 1)), (Str.ofString "isjunk", .none), (Str.ofString "a", .ref a), (Str.ofString "b", .ref b), (Str.ofString "autojunk", .bool true)] C2 ?k6 ?k7 R1 ?k9 ?kB ?_ ?c2 ?c3 ?c4 ?c5
  case k6 => k_is
  case k7 => k_is
  case k9 => walk_at "my binds"
  case c5 => decide
  case kB => exact locs rfl
  case c2 => exact rfl
  case c3 => exact rfl
  case c4 => exact rfl
  intro h1 F0 N0 R2
  obtain ⟨F, N⟩ := pushed2 F0
  clear F0 N0 C2 R1 XX
  have X := Cx.X C
  obtain ⟨mg, mb, T⟩ := Cx.T C
  simp only [Heap.size_push] at R2 ⊢
  try dsimp only
  try refine wpTok fun tkN => ?_
  walk_at "my steps"
  rename Fr _ _ _ _ => F
  rename News _ _ _ _ => N
  have hz1 := F.above
  refine wpAny_call ?_
  refine' enterM [(Str.ofString "self", .ref (h0.objs.size + 1)), (Str.ofString "a", .ref a), (Str.ofString "b", .ref b)] C F N ?k6 ?k7 R2 ?k9 ?kB ?_ ?c2 ?c3 ?c4 ?c5
  ((case k6 => k_is); (case k7 => k_is); (case k9 => walk_at "my binds"); (case c5 => decide); (case kB => exact locs rfl); (case c2 => exact rfl); (case c3 => exact rfl); (case c4 => exact rfl))
  intro oL1 h2 nL1 F1 N1 l1 R3
  k_lt l1
  clear F N
  try dsimp only
  try refine wpTok fun tkN => ?_
  walk_at "my steps"
  rename Fr _ _ _ _ => F
  rename News _ _ _ _ => N
  have hz2 := F.above
  refine wpAny_call ?_
  refine' enterM [(Str.ofString "self", .ref (h0.objs.size + 1)), (Str.ofString "a", .ref a)] C F N ?k6 ?k7 R3 ?k9 ?kB ?_ ?c2 ?c3 ?c4 ?c5
  ((case k6 => k_is); (case k7 => k_is); (case k9 => walk_at "my binds"); (case c5 => decide); (case kB => exact locs rfl); (case c2 => exact rfl); (case c3 => exact rfl); (case c4 => exact rfl))
  intro oL2 h3 nL2 F1 N1 l2 R4
  k_lt l2
  clear F N
  rename_i zy1 zy2 zy3 zy4 zy5 zy6 zy7 zy8 zy9
  clear l2 R4 tkN zy1 R2 T mb mg X sa la R0
  revert v1 C lb sb z hQ hz1 nL1 R3 l1 hz2 nL2 F1 N1
  revert h1 zy2 zy3 zy4 zy5 zy6 zy7 zy8 zy9 oL1 h2 tk oL2 h3
  exact @zh)
 ⟩
noncomputable def zT (x : YY) : Prop := zQ.1 (x 2 0) (x 0 1) (x 2 2) (x 0 3) (x 2 4) (x 2 5) (x 0 6) (x 2 7) (x 0 8) (x 3 9) (x 2 10) (x 0 11) (x 3 12) (x 2 13)
noncomputable def zC := pickY zT
@[irreducible] def h1 : Heap := zC 2 0
def zy2 : Nat := zC 0 1
@[irreducible] def zy3 : Heap := zC 2 2
def zy4 : Nat := zC 0 3
@[irreducible] def zy5 : Heap := zC 2 4
@[irreducible] def zy6 : Heap := zC 2 5
def zy7 : Nat := zC 0 6
@[irreducible] def zy8 : Heap := zC 2 7
def zy9 : Nat := zC 0 8
@[irreducible] def oL1 : Obj := zC 3 9
@[irreducible] def h2 : Heap := zC 2 10
def tk : Nat := zC 0 11
@[irreducible] def oL2 : Obj := zC 3 12
@[irreducible] def h3 : Heap := zC 2 13
theorem zA (h : zQ.1 h1 zy2 zy3 zy4 zy5 zy6 zy7 zy8 zy9 oL1 h2 tk oL2 h3) : ∀ y, zT y := by with_unfolding_all exact pickY_spec zT h
namespace zD
noncomputable def zQ : {zz : Heap → Nat → Heap → Heap → Nat → Obj → Heap → Nat → Heap → Nat → Obj → Heap → Prop // (∀ zy4 zy5 zy6 zy7 zy9 oL3 zy15 zy16 zy17 tk oL4 h5, zz zy4 zy5 zy6 zy7 zy9 oL3 zy15 zy16 zy17 tk oL4 h5) → zQ.1 h1 zy2 zy3 zy4 zy5 zy6 zy7 zy8 zy9 oL1 h2 tk oL2 h3} := ⟨_, by
 intro zh
 intro v1 C lb sb z hQ hz1 nL1 R3 l1 hz2 nL2 F1 N1
 w_on
 w_strict (
  have X := Cx.X C
  obtain ⟨mg, mb, T⟩ := Cx.T C
  try dsimp only
  try refine wpTok fun tkN => ?_
  walk_at "my steps"
  rename Fr _ _ _ _ => F
  rename News _ _ _ _ => N
  obtain ⟨F1, N1⟩ := back hz2 nL2 F N (by k_all)
  clear F N
  refine Bk.go ?_
  (try dsimp only)
  try refine wpTok fun tkN => ?_
  walk_at "my steps"
  rename Fr _ _ _ _ => F
  rename News _ _ _ _ => N
  refine wpAny_call ?_
  refine' enterM [(Str.ofString "self", .ref (h0.objs.size + 1)), (Str.ofString "b", .ref b)] C F N ?k6 ?k7 R3 ?k9 ?kB ?_ ?c2 ?c3 ?c4 ?c5
  ((case k6 => k_is); (case k7 => k_is); (case k9 => walk_at "my binds"); (case c5 => decide); (case kB => exact locs rfl); (case c2 => exact rfl); (case c3 => exact rfl); (case c4 => exact rfl))
  intro oL3 h4 nL3 F1 N1 l3 R5
  k_lt l3
  clear F N
  try dsimp only
  try refine wpTok fun tkN => ?_
  walk_at "my steps"
  rename Fr _ _ _ _ => F
  rename News _ _ _ _ => N
  have hz3 := F.above
  refine wpAny_call ?_
  refine' enterM [(Str.ofString "self", .ref (h0.objs.size + 1))] C F N ?k6 ?k7 R5 ?k9 ?kB ?_ ?c2 ?c3 ?c4 ?c5
  ((case k6 => k_is); (case k7 => k_is); (case k9 => walk_at "my binds"); (case c5 => decide); (case kB => exact locs rfl); (case c2 => exact rfl); (case c3 => exact rfl); (case c4 => exact rfl))
  intro oL4 h5 nL4 F1 N1 l4 R6
  k_lt l4
  clear F N
  rename_i zy1 zy2 zy3 zy4 zy5 zy6 zy7 zy8 zy9 zy10 zy11 zy12 zy13 zy14 zy15 zy16 zy17
  clear l4 R6 zy14 zy13 zy12 zy11 zy10 tkN R5 h4 zy8 zy3 zy2 zy1 T mb mg X nL2 R3
  revert v1 C lb sb z hQ hz1 nL1 l1 hz2 nL3 l3 hz3 nL4 F1 N1
  revert zy4 zy5 zy6 zy7 zy9 oL3 zy15 zy16 zy17 tk oL4 h5
  exact @zh)
 ⟩
noncomputable def zT (x : YY) : Prop := zQ.1 (x 2 0) (x 0 1) (x 2 2) (x 2 3) (x 0 4) (x 3 5) (x 2 6) (x 0 7) (x 2 8) (x 0 9) (x 3 10) (x 2 11)
noncomputable def zC := pickY zT
@[irreducible] def zy4 : Heap := zC 2 0
def zy5 : Nat := zC 0 1
@[irreducible] def zy6 : Heap := zC 2 2
@[irreducible] def zy7 : Heap := zC 2 3
def zy9 : Nat := zC 0 4
@[irreducible] def oL3 : Obj := zC 3 5
@[irreducible] def zy15 : Heap := zC 2 6
def zy16 : Nat := zC 0 7
@[irreducible] def zy17 : Heap := zC 2 8
def tk : Nat := zC 0 9
@[irreducible] def oL4 : Obj := zC 3 10
@[irreducible] def h5 : Heap := zC 2 11
theorem zA (h : zQ.1 zy4 zy5 zy6 zy7 zy9 oL3 zy15 zy16 zy17 tk oL4 h5) : ∀ y, zT y := by with_unfolding_all exact pickY_spec zT h
theorem zK : zQ.1 zy4 zy5 zy6 zy7 zy9 oL3 zy15 zy16 zy17 tk oL4 h5 := by
 intro v1 C lb sb z hQ hz1 nL1 l1 hz2 nL3 l3 hz3 nL4 F1 N1
 w_on
 w_strict (
  have X := Cx.X C
  obtain ⟨mg, mb, T⟩ := Cx.T C
  try dsimp only
  try refine wpTok fun tkN => ?_
  walk_at "my steps"
  rename Fr _ _ _ _ => F
  rename News _ _ _ _ => N
  rename (_ == sysModules) = false => lo1
  rename Obj.IsDictOf (PySem.strKind _ _) _ _ => hd1
  refine' cut_exec (chain_for C F N lb sb z hd1 lo1 ?m1 ?m2 ?m3 ?hX) ?_
  case m1 => walk_at "my look"
  case m2 => walk_at "my look"
  case m3 => walk_at "my look"
  case hX => k_all
  clear F N hd1
  rintro f s' ⟨rfl, h6, tk6, m6, o6, P, rfl, F, N, hd, I, m1, m2, hap⟩
  simp only [List.cons_append, List.nil_append] at N
  obtain ⟨q1, hap⟩ := hap_split hap
  obtain ⟨q2, hap⟩ := hap_split hap
  obtain ⟨q3, hap⟩ := hap_split hap
  obtain ⟨q4, hap⟩ := hap_split hap
  obtain ⟨q5, hap⟩ := hap_split hap
  obtain ⟨q6, hap⟩ := hap_split hap
  clear hap
  walk_at "my steps"
  rename Fr _ _ _ _ => F
  have lv := strs_len sb
  refine len_list (items := v1.toArray) ⟨_, F.keep _ _ lb, rfl, _, rfl⟩ (by rw [List.size_toArray]; lia) ?_
  have zv : v1.toArray.size ≤ 6 := by rw [List.size_toArray]; lia
  walk_at "my steps"
  rename Fr _ _ _ _ => F
  rename News _ _ _ _ => N
  obtain ⟨jp, jk, rfl, rfl⟩ := name2 N
  obtain ⟨F1, N1⟩ := back hz3 nL4 F (news_sub (news' := (_, oL4) :: (jp, _) :: (jk, _) :: (_, o6) :: (_, oL3) :: (_, oL1) :: (_, instObj 242 _) :: (_, dictOf _ _) :: ledP P) N (by walk_at "my sub")) (by k_all)
  clear F N
  refine Bk.go ?_
  (try dsimp only)
  try refine wpTok fun tkN => ?_
  walk_at "my steps"
  rename Fr _ _ _ _ => F
  rename News _ _ _ _ => N
  obtain ⟨F1, N1⟩ := back hz2 nL3 F (news_sub (news' := (_, oL3) :: (jp, _) :: (jk, _) :: (_, o6) :: (_, oL1) :: (_, instObj 242 _) :: (_, dictOf _ _) :: ledP P) N (by walk_at "my sub")) (by k_all)
  clear F N
  refine Bk.go ?_
  (try dsimp only)
  try refine wpTok fun tkN => ?_
  walk_at "my steps"
  rename Fr _ _ _ _ => F
  rename News _ _ _ _ => N
  obtain ⟨F1, N1⟩ := back hz1 nL1 F (news_sub (news' := (_, oL1) :: (jp, _) :: (jk, _) :: (_, o6) :: (_, instObj 242 _) :: (_, dictOf _ _) :: ledP P) N (by walk_at "my sub")) (by k_all)
  clear F N
  refine Bk.go ?_
  (try dsimp only)
  try refine wpTok fun tkN => ?_
  walk_at "my steps"
  rename News _ _ _ _ => N
  refine ⟨rfl, ?_⟩
  (try dsimp only)
  refine' hQ _ _ (h0.objs.size + 1) h0.objs.size jk _ o6 P (smDict w.params _ _ _ _ _ _ _ _ _ _ a b .none _ jk jp) _ _ (Fr.keep (by walk_at "a")) ?g1 ⟨⟨_, _, _, _, _, _, _, _, _, _, _, rfl⟩, ⟨_, rfl⟩, hd, I, lo1⟩ ?g2
  case g1 => exact news_give N (by walk_at "my sub")
  case g2 => k_all)
end zD
theorem zK : zQ.1 h1 zy2 zy3 zy4 zy5 zy6 zy7 zy8 zy9 oL1 h2 tk oL2 h3 := zD.zQ.2 fun zy4 zy5 zy6 zy7 zy9 oL3 zy15 zy16 zy17 tk oL4 h5 => zD.zA zD.zK (putY [⟨2, zy4⟩, ⟨0, zy5⟩, ⟨2, zy6⟩, ⟨2, zy7⟩, ⟨0, zy9⟩, ⟨3, oL3⟩, ⟨2, zy15⟩, ⟨0, zy16⟩, ⟨2, zy17⟩, ⟨0, tk⟩, ⟨3, oL4⟩, ⟨2, h5⟩])
end zB
theorem zK : zP w { depth := d0, frames := fr0, guards := gd0, units := u0 } E { heap := h0, gens := g0, drawn := dr0, toks := tk0, os := os0 } Q a b v0 xs ys ka kb := zB.zQ.2 fun h1 zy2 zy3 zy4 zy5 zy6 zy7 zy8 zy9 oL1 h2 tk oL2 h3 => zB.zA zB.zK (putY [⟨2, h1⟩, ⟨0, zy2⟩, ⟨2, zy3⟩, ⟨0, zy4⟩, ⟨2, zy5⟩, ⟨2, zy6⟩, ⟨0, zy7⟩, ⟨2, zy8⟩, ⟨0, zy9⟩, ⟨3, oL1⟩, ⟨2, h2⟩, ⟨0, tk⟩, ⟨3, oL2⟩, ⟨2, h3⟩])
end cmake_
end
theorem make_ {w : World} {A : Around} {E : Value → Shared → Prop} {s : Shared} {Q : Value → Shared → Prop} {a b : Addr} {v0 : List Value} {xs ys : List Str} {ka kb : Nat} : cmake_.zP w A E s Q a b v0 xs ys ka kb := by
 intro v1 C R
 obtain ⟨hd0, d0, fr0, gd0, u0⟩ := A
 have hh0 := Room.handled R
 dsimp only at hh0
 subst hh0
 obtain ⟨h0, g0, dr0, tk0, os0⟩ := s
 exact cmake_.zA cmake_.zK (putY [⟨1, w⟩, ⟨0, d0⟩, ⟨10, fr0⟩, ⟨11, gd0⟩, ⟨0, u0⟩, ⟨9, E⟩, ⟨2, h0⟩, ⟨33, g0⟩, ⟨34, dr0⟩, ⟨0, tk0⟩, ⟨35, os0⟩, ⟨9, Q⟩, ⟨0, a⟩, ⟨0, b⟩, ⟨4, v0⟩, ⟨13, xs⟩, ⟨13, ys⟩, ⟨0, ka⟩, ⟨0, kb⟩]) C R
end
section
theorem Room.under1 {A : Around} {n : Nat} {c : Code} (R : Room A (n + 1)) (hw : c.weight ≤ 1) (hu : c.cUnits ≤ 8) : Room (A.under c) n := Room.under R hw hu
theorem match_ {w : World} {A : Around} {E : Value → Shared → Prop} {s : Shared} {Q : Value → Shared → Prop} {i j k : Int} {ti tj tz : Tok}
  (C : Cx w s.heap) (R : Room A 4) (hQ : ∀ h' tk x dx ti tj tz, Keeps s.heap h' → s.heap.get? x = none → h'.get? x = some (matchObj dx #[.int i ti, .int j tj, .int k tz]) → Q (.ref x) { s with heap := h', toks := tk }) :
  wpAny (model pw w) A (call (.ref 135) [.int i ti, .int j tj, .int k tz]) Q E s := by
 w_on
 w_strict (
  (rename Room _ _ => R0)
  obtain ⟨hd0, d0, fr0, gd0, u0⟩ := A
  have hh0 := Room.handled R0
  dsimp only at hh0
  subst hh0
  refine wpAny_call ?_
  refine make_match (Cx.X C) fun tk => ?_
  have R1 := Room.under R0 (Nat.le_of_eq (make_weight 135 [.int i ti, .int j tj, .int k tz] [])) (make_units 135 [.int i ti, .int j tj, .int k tz] [])
  refine' enter [(Str.ofString "_cls", .ref 135), (Str.ofString "a", .int i ti), (Str.ofString "b", .int j tj), (Str.ofString "size", .int k tz)] C ?k6 ?k7 R1 ?k9 ?kB ?_ ?c2 ?c3 ?c4 ?c5
  ((case k6 => k_is); (case k7 => k_is); (case k9 => walk_at "my binds"); (case c5 => decide); (case kB => exact locs rfl); (case c2 => exact rfl); (case c3 => exact rfl); (case c4 => exact rfl))
  intro h1 F N R2
  have X := Cx.X C
  obtain ⟨mg, mb, T⟩ := Cx.T C
  try dsimp only
  walk_at "my steps"
  with_reducible refine' method_type ?zF ?zX ?zm (by decide +kernel) ?ze ?zh ?_
  case zF => k_asm
  case zX => k_asm
  case zm => first | rfl | kernel_rfl
  case ze => exact tuple_new_found _
  case zh => k_handed
  walk_at "my steps"
  with_reducible refine' tn_call ?zC ?zT ?zz ?_
  case zC => walk_at "my cx"
  case zT => exact ⟨_, News.get (by walk_at "a") (by k_mem), rfl, _, rfl⟩
  case zz => exact (by decide : (3 : Nat) ≤ 10000)
  walk_at "my back"
  walk_at "my steps"
  exact ⟨_, _, _, rfl, (Cx.keeps C (Fr.keep (by assumption))).X, News.get (by walk_at "a") (.head _), hQ _ _ _ _ _ _ _ (Fr.keep (by assumption)) (News.fresh (by walk_at "a") (.head _)) (News.get (by walk_at "a") (.head _))⟩)
end
section
section
variable {prog : Program} {w : World} {A : Around} {E : Value → Shared → Prop} {s : Shared} {h₀ : Heap} {L : Addr} {m : Str → Option Value} {news : List (Addr × Obj)}
theorem item_base {value slice : Expr} {l : Addr} {v : List Value} {kn : Nat} {k : Int} {i : Nat} {x : Value} {u : Tok} {Q : Value → Shared → Prop} (F : Fr h₀ L s.heap m) (la : h₀.get? l = some (listOf v.toArray kn)) (hk : k = (i : Int)) (hx : v[i]? = some x) (hz : i < 100000) (h : Q x s)
  (hs : subscripted slice false (.ref l) (.int k u) = operate [.ref l, .int k u] (getItem (.ref l) (.int k u)) := by with_unfolding_all rfl) (hg : ∀ r, letTemporaryGo value (.ref l) r = pure () := by intro _; with_unfolding_all rfl) :
  wpAny (model prog w) A (subscriptTail value slice (.ref l) (.int k u)) Q E s := by
 subst hk
 refine item_list (items := v.toArray) ⟨_, F.keep _ _ la, rfl, _, rfl⟩ (by lia) (by lia) (x := x) (by simpa using hx) h hs hg
theorem len_base {l : Addr} {v : List Value} {kn : Nat} {xs : List Str} {Q : Value → Shared → Prop} (F : Fr h₀ L s.heap m) (la : h₀.get? l = some (listOf v.toArray kn)) (sa : StrsAre v xs) (z : xs.length ≤ 6)
  (h : Q (.int xs.length (s.toks + 1)) { s with toks := s.toks + 1 + 1 }) : wpAny (model prog w) A (call (.builtin "len") [.ref l]) Q E s := by
 have e := strs_len sa
 refine len_list (items := v.toArray) ⟨_, F.keep _ _ la, rfl, _, rfl⟩ (by rw [List.size_toArray]; lia) ?_
 rw [List.size_toArray, e]; exact h
section
variable {K : Type} [DecidableEq K] {knd : KeyKind prog w K} {o : Obj} {d : Addr} {kvs : List (K × Value)}
theorem meth_get_base {pl : Sem Bool} {Q : Value × List Value → Shared → Prop} (F : Fr h₀ L s.heap m) (ho : h₀.get? d = some o) (hd : o.IsDictOf knd kvs) (h : Q (.builtin "dict.get", [.ref d]) s) :
  wpAny (model prog w) A (getMethod (.ref d) "get" pl) Q E s := by
 obtain ⟨es, ep, ⟨hc, hn, hs⟩, hdat, _⟩ := hd
 refine getMethod_builtin ⟨o, F.keep _ _ ho, hc⟩ PySem.F.plainAttrs_dict PySem.F.slot_dict_get PySem.F.type_dict_get (fun b e => ?_) h
 injection e with e; subst e
 exact ⟨o, F.keep _ _ ho, hn⟩
theorem call_get_base {k : K} {key dflt : Value} {Q : Value → Shared → Prop} (F : Fr h₀ L s.heap m) (ho : h₀.get? d = some o) (hd : o.IsDictOf knd kvs) (hkey : knd.is k key = true) (lo : (d == sysModules) = false)
  (h : Q ((valueAt kvs k).getD dflt) { s with toks := s.toks + 1 }) : wpAny (model prog w) A (call (.builtin "dict.get") [.ref d, key, dflt]) Q E s := by
 have hD : s.heap.DictOf knd d kvs := Heap.dictOf_iff.mpr ⟨o, F.keep _ _ ho, hd⟩
 exact call_meetsIn PySem.F.slot_dict_get hD.typeIs PySem.F.entry_dict_get (PySem.F.args_dict_get_3 _ _ _) (meets_dict_get_default knd d hkey lo dflt) ⟨_, hD.mapOf, h⟩
theorem bound_getD {Q : Value → Shared → Prop} (F : Fr h₀ L s.heap m) (N : News h₀ L s.heap news) (hm : (d, o) ∈ news) (hd : o.IsDictOf knd kvs)
  (h : ∀ x h' tk, Fr h₀ L h' m → News h₀ L h' ((x, boundOf "dict.get" d) :: news) → (∀ p ∈ news, p.1 < x) → Q (.ref x) { s with heap := h', toks := tk }) : wpAny (model prog w) A (getAttr (.ref d) "get" true) Q E s := by
 obtain ⟨es, ep, ⟨hc, hn, hs⟩, hdat, _⟩ := hd
 have ho := (N _ hm).1
 obtain ⟨oc, od, odat, osl⟩ := o
 dsimp only at hc hn hs hdat ho
 subst hc hn hs hdat
 exact bound_get F N ⟨_, _, rfl⟩ ho h
end
theorem meth_get_str {o : Obj} {d : Addr} {kvs : List (Str × Value)} {pl : Sem Bool} {Q : Value × List Value → Shared → Prop} (F : Fr h₀ L s.heap m) (ho : h₀.get? d = some o) (hd : o.IsDictOf (PySem.strKind prog w) kvs) (h : Q (.builtin "dict.get", [.ref d]) s) :
  wpAny (model prog w) A (getMethod (.ref d) "get" pl) Q E s := meth_get_base F ho hd h
theorem old_call {g dd : Addr} {od : Obj} {kvs : List (Int × Value)} {A0 B0 : List Str} {alo blo bhi i j : Nat} {q : Int} {t1 t2 : Tok} {Q : Value → Shared → Prop}
  (N : News h₀ L s.heap news) (hg : (g, boundOf "dict.get" dd) ∈ news) (hm : (dd, od) ∈ news) (hd : od.IsDictOf (intKind prog w) kvs) (lo : (dd == sysModules) = false) (O : OldRow A0 B0 alo blo bhi i kvs)
  (hq : q = (j : Int) - 1) (h1 : blo ≤ j) (h2 : j < bhi) (h : ∀ t, Q (.int ((if alo < i ∧ blo < j then bsz A0 B0 alo blo (i - 1) (j - 1) else 0 : Nat) : Int) t) { s with toks := s.toks + 1 }) :
  wpAny (model prog w) A (call (.ref g) [.int q t1, .int 0 t2]) Q E s := by
 subst hq
 obtain ⟨es, ep, ⟨hc, hn, hs⟩, hdat, _⟩ := id hd
 obtain ⟨t, e⟩ := O j h1 h2 t2
 refine call_get N hg hm hd ⟨hc, _, _, hdat⟩ (intKind_is _ _ _ _) lo ?_
 rw [e]; exact h t
theorem set_in {d : Addr} {o : Obj} {kvs : List (Int × Value)} {k : Int} {t : Tok} {v : Value} {Q : Unit → Shared → Prop} (F : Fr h₀ L s.heap m) (N : News h₀ L s.heap news) (hm : (d, o) ∈ news) (rest : List (Addr × Obj)) (hr : ∀ p ∈ rest, p ∈ news ∧ p.1 ≠ d) (hd : o.IsDictOf (intKind prog w) kvs) (hsz : kvs.length ≤ 10000)
  (h : ∀ h' o', Fr h₀ L h' m → News h₀ L h' ((d, o') :: rest) → o'.IsDictOf (intKind prog w) (stored kvs k v) → Q () { s with heap := h', toks := s.toks + 1 }) : wpAny (model prog w) A (setItem (.ref d) (.int k t) v) Q E s := by
 have hmm := N _ hm
 refine wpAny_setItem_pairs (hsz := by rw [sizeLine_eq]; lia) (intKind_is _ _ k t) (Heap.dictOf_iff.mpr ⟨o, hmm.1, hd⟩) fun h' hmp hs => ?_
 obtain ⟨o', ho', hd'⟩ := Heap.dictOf_iff.mp hmp
 refine h h' o' (F.change hs hmm.2.1 hmm.2.2) (fun p hp => ?_) hd'
 rcases List.mem_cons.mp hp with rfl | hp
 ·exact ⟨ho', hmm.2⟩
 ·have z := N p (hr p hp).1
  exact ⟨hs.extBut _ _ (hr p hp).2 z.1, z.2⟩
theorem b2j_call {d l : Addr} {o : Obj} {P : List PlE} {ys : List Str} {c : Str} {t : Tok} {Q : Value → Shared → Prop} (F : Fr h₀ L s.heap m) (N : News h₀ L s.heap news) (hl : (l, listOf #[] 0) ∈ news) (hd : h₀.get? d = some o) (hD : o.IsDictOf (PySem.strKind prog w) (kvsP P)) (I : PlInv ys ys.length P)
  (hP : ∀ p ∈ ledP P, h₀.get? p.1 = some p.2) (lo : (d == sysModules) = false)
  (h : ∀ l' its n, IntsAre its ((posN ys c).map Int.ofNat) → (h₀.get? l' = some (listOf its.toArray n) ∨ (l' = l ∧ its = [] ∧ n = 0)) → Q (.ref l') { s with toks := s.toks + 1 }) :
  wpAny (model prog w) A (call (.builtin "dict.get") [.ref d, .str c t, .ref l]) Q E s := by
 refine call_get_base F hd hD (strKind_is _ _ _ _) lo ?_
 cases e : valueAt (kvsP P) c with
 | none =>
  have hr := I.rest c (kvs_none e)
  exact h l [] 0 (by rw [← posn_eq, hr]; exact .nil) (.inr ⟨rfl, rfl, rfl⟩)
 | some v =>
  obtain ⟨l', its, n, hm, rfl⟩ := kvs_find e
  exact h l' its n (by rw [← posn_eq]; exact I.vals _ hm) (.inl (hP _ (ledP_in hm)))
end
theorem ints_at {vs : List Value} {ns : List Nat} (h : IntsAre vs (ns.map Int.ofNat)) : ∀ {k : Nat} {v : Value}, vs[k]? = some v → ∃ (j : Nat) (t : Tok), v = .int ((j : Nat) : Int) t ∧ ns[k]? = some j := by
 intro k v e
 have key : ∀ {vs : List Value} {zs : List Int}, IntsAre vs zs → ∀ {k : Nat} {v : Value}, vs[k]? = some v → ∃ z t, v = .int z t ∧ zs[k]? = some z := by
  intro vs zs h
  induction h with
  | nil => intro k v e; cases e
  | cons n t _ ih =>
   intro k v e
   cases k with
   | zero => cases e; exact ⟨n, t, rfl, rfl⟩
   | succ k => exact ih (by simpa using e)
 obtain ⟨z, t, rfl, hz⟩ := key h e
 rw [List.getElem?_map] at hz
 obtain ⟨j, hj, rfl⟩ := Option.map_eq_some_iff.mp hz
 exact ⟨j, t, rfl, hj⟩
theorem look_other {r e : Option Value} {x y : Str} {u : Value} (h : (y == x) = false) (k : r = e) : (if y = x then some u else r) = e := by
 rw [if_neg (by simpa using h)]; exact k
end
section
section
variable {w : World} {A : Around} {E : Value → Shared → Prop} {s : Shared}
theorem match_len_found (w : World) : findIn (KW w.params) (.ref 135) "__len__" = some (some (.builtin "tuple.__len__")) := by k_is
theorem match_type {M : Model} {x dx : Addr} {its : Array Value} {h : Heap} (hx : h.get? x = some (matchObj dx its)) : Looks M h (typeOf (.ref x)) (.ref 135) := (Looks.ld hx).andThen .now
theorem match_isinst {M : Model} {x dx : Addr} {its : Array Value} {h : Heap} (X : (KW w.params).In h) (hx : h.get? x = some (matchObj dx its)) : Looks M h (isInstance (.ref x) (.type "tuple")) true := (match_type hx).andThen (looks_mroIn X (match_sub w))
theorem tl_kind : builtinKind "tuple.__len__" = some .slot := by decide +kernel
theorem tl_split : splitId "tuple.__len__" = some ("tuple", "__len__") := by decide +kernel
theorem tl_plain : plainId "tuple.__len__" = true := by decide +kernel
theorem tl_args (a : Value) : argsOk "tuple.__len__" ⟨[a], []⟩ := by unfold argsOk; kernel_rfl
theorem len_match {x dx : Addr} {its : Array Value} {Q : Value → Shared → Prop} (X : (KW w.params).In s.heap) (hx : s.heap.get? x = some (matchObj dx its)) (hz : its.size ≤ 10000)
  (h : ∀ tk tk', Q (.int its.size tk) { s with toks := tk' }) : wpAny (model pw w) A (call (.builtin "len") [.ref x]) Q E s := by
 have l1 := match_type (M := model pw w) hx
 have l2 := looks_findIn (M := model pw w) X (match_len_found w)
 have l3 := match_isinst (M := model pw w) X hx
 have bi : Looks (model pw w) s.heap (bindSpecial (.builtin "tuple.__len__") (.ref x)) (.builtin "tuple.__len__", [.ref x]) := Looks.of_pure (PyProof.Rows.slot_tuple_len.bind _)
 obtain ⟨hh, g, d, t, os⟩ := s
 refine Calls.call_function_entry kind_len plain_len entry_len (args_len1 _) ?_
 unfold Builtin.«len» callSpecial? specialOf
 repeat (first | with_reducible refine wpAny_call ?_ | simp only [Bool.false_eq_true, if_false, Bool.not_true] | lk)
 change codeAny _ _ (.call (.builtin "tuple.__len__") ⟨[.ref x], []⟩) _ _
 refine codeAny_call_builtin tl_plain PyProof.Rows.entry_tuple_len (@check_slot (model pw w) _ _ _ "tuple.__len__" "tuple" "__len__" (.ref x) [] [] _ tl_kind tl_split l3 (tl_args (.ref x)) ?_)
 unfold Builtin.«tuple.__len__» Builtin.Tuple.tupleItemsOf
 repeat (first | with_reducible refine wpAny_call ?_ | simp only [Bool.false_eq_true, if_false, Bool.not_true] | lk)
 rw [if_neg (by lia)]
 repeat (first | simp only [Bool.false_eq_true, if_false, Bool.not_true] | lk)
 exact ⟨_, rfl, h _ _⟩
theorem match_iter_found (w : World) : findIn (KW w.params) (.ref 135) "__iter__" = some (some (.builtin "tuple.__iter__")) := by k_is
theorem ti_kind : builtinKind "tuple.__iter__" = some .slot := by decide +kernel
theorem ti_split : splitId "tuple.__iter__" = some ("tuple", "__iter__") := by decide +kernel
theorem ti_plain : plainId "tuple.__iter__" = true := by decide +kernel
theorem ifBound {h : Heap} {v : Value} {name : Str} {id : String} (h1 : Looks (model pw w) h (specialOf v name) (some (.builtin id))) (h2 : Looks (model pw w) h (bindSpecial (.builtin id) v) (.builtin id, [v])) : Looks (model pw w) h (bindSpecialIfBound? v name) (some (.builtin id, [v])) := by
 intro A Q E s k q
 unfold bindSpecialIfBound?
 refine wpAny_bind (h1 A _ E s k ?_)
 refine wpAny_bind (wpAny_askSetting (wpAny_ite ?_))
 split
 ·exact wpAny_bind (h2 A _ E s k (wpAny_pure q))
 ·exact wpAny_tryCatch (wpAny_bind (h2 A _ _ s k (wpAny_pure q)))
noncomputable def tupIter (t : Addr) (i : Nat) : Obj := { cls := .type "tuple_iterator", data := .fields #[.ref t, .int i 0] }
theorem iter_match {x dx : Addr} {its : Array Value} {Q : Value → Shared → Prop} (X : (KW w.params).In s.heap) (hx : s.heap.get? x = some (matchObj dx its))
  (h : Q (.ref s.heap.objs.size) { s with heap := s.heap.push (tupIter x 0) }) : wpAny (model pw w) A (pyIter (.ref x)) Q E s := by
 have l1 := match_type (M := model pw w) hx
 have l2 := looks_findIn (M := model pw w) X (match_iter_found w)
 have l3 := match_isinst (M := model pw w) X hx
 have bi : Looks (model pw w) s.heap (bindSpecial (.builtin "tuple.__iter__") (.ref x)) (.builtin "tuple.__iter__", [.ref x]) := Looks.of_pure (PySem.F.slot_tuple_iter.bind _)
 obtain ⟨hh, g, d, t, os⟩ := s
 have l4 : Looks (model pw w) hh (specialOf (.ref x) "__iter__") (some (.builtin "tuple.__iter__")) := l1.andThen l2
 have l5 := ifBound l4 bi
 unfold pyIter callSpecialIfBoundUnlessNone?
 repeat (first | with_reducible refine wpAny_call ?_ | simp only [Bool.false_eq_true, if_false, Bool.not_true] | lk)
 refine codeAny_call_builtin ti_plain PySem.F.entry_tuple_iter (@check_slot (model pw w) _ _ _ "tuple.__iter__" "tuple" "__iter__" (.ref x) [] [] _ ti_kind ti_split l3 (PySem.F.args_tuple_iter_1 (.ref x)) ?_)
 show wpAny _ _ (do ret (← newFields "tuple_iterator" [.ref x, rawInt 0])) _ _ _
 refine wpAny_bind (wpAny_newObj_type (wpAny_pure ?_))
 have hI : (hh.push (tupIter x 0)).get? hh.objs.size = some (tupIter x 0) := Heap.get?_push_size _ rfl
 have n1 : Looks (model pw w) (hh.push (tupIter x 0)) (typeOf (.ref hh.objs.size)) (.type "tuple_iterator") := (Looks.ld hI).andThen .now
 have n2 : Looks (model pw w) (hh.push (tupIter x 0)) (specialOf (.ref hh.objs.size) "__next__") (some (.builtin "tuple_iterator.__next__")) := n1.andThen (Looks.of_pure PySem.F.slot_tuple_iterator_next.lookup)
 show wpAny _ _ _ _ _ ⟨hh.push (tupIter x 0), g, d, t, os⟩
 repeat (first | simp only [Bool.false_eq_true, if_false, Bool.not_true] | lk)
 exact h
theorem next_match {it x dx : Addr} {its : Array Value} {i : Nat} {v : Value} {Q : Option Value → Shared → Prop} (hit : s.heap.get? it = some (tupIter x i)) (hx : s.heap.get? x = some (matchObj dx its)) (hv : its[i]? = some v)
  (h : ∀ h', h'.get? it = some (tupIter x (i + 1)) → Heap.SameBut it s.heap h' → Q (some v) { s with heap := h' }) : wpAny (model pw w) A (pyNext (.ref it)) Q E s := by
 have hT : s.TypeIs (.ref it) "tuple_iterator" := ⟨_, hit, rfl⟩
 unfold pyNext
 refine wpAny_bind (wpAny_attempt (wpAny_callSpecial?_slot (name := Str.ofString "__next__") hT PySem.F.slot_tuple_iterator_next
  (wpAny_call_entry PySem.F.slot_tuple_iterator_next hT PySem.F.entry_tuple_iterator_next ?_ (PySem.F.args_tuple_iterator_next_1 _))))
 obtain ⟨hh, g, d, t, os⟩ := s
 unfold Builtin.«tuple_iterator.__next__»
 repeat (first | simp only [Bool.false_eq_true, if_false, Bool.not_true] | lk)
 simp only [Int.toNat_natCast, hv]
 refine wpAny_bind (wpAny_setField hit rfl (by simp) (wpAny_pure ⟨v, rfl, wpAny_pure (h _ ?_ (Heap.SameBut.update ..))⟩))
 exact Heap.get?_update_self _ hit rfl
theorem stop_match {it x dx : Addr} {its : Array Value} {Q : Option Value → Shared → Prop} (hh0 : A.handled = none) (hit : s.heap.get? it = some (tupIter x its.size)) (hx : s.heap.get? x = some (matchObj dx its))
  (h : ∀ h', Heap.ExtBut it s.heap h' → Q none { s with heap := h' }) : wpAny (model pw w) A (pyNext (.ref it)) Q E s := by
 have hT : s.TypeIs (.ref it) "tuple_iterator" := ⟨_, hit, rfl⟩
 unfold pyNext
 refine wpAny_bind (wpAny_attempt (wpAny_callSpecial?_slot (name := Str.ofString "__next__") hT PySem.F.slot_tuple_iterator_next
  (wpAny_call_entry PySem.F.slot_tuple_iterator_next hT PySem.F.entry_tuple_iterator_next ?_ (PySem.F.args_tuple_iterator_next_1 _))))
 obtain ⟨hh, g, d, t, os⟩ := s
 unfold Builtin.«tuple_iterator.__next__»
 repeat (first | simp only [Bool.false_eq_true, if_false, Bool.not_true] | lk)
 simp only [Int.toNat_natCast, Array.getElem?_size]
 refine wpAny_bind (wpAny_rule (wpAny_bind (wpAny_setField hit rfl (by simp) ?_)))
 have ext : ∀ h', (∀ b o, (hh.update it (Obj.mapFields (·.setIfInBounds 0 Value.none))).get? b = some o → h'.get? b = some o) → Heap.ExtBut it hh h' := fun h' k b o hb e => k b o ((Heap.get?_update_other _ _ (Ne.symm hb)).trans e)
 unfold Builtin.SmallTypes.stopIteration newExc newTuple firstArgMember raiseNew
 repeat (first | simp only [Bool.false_eq_true, if_false, Bool.not_true] | lk)
 refine wpAny_handled ?_
 rw [show A.in1.handled = none from hh0]
 dsimp only
 refine wpAny_throw ?_
 refine wpAny_bind (wpAny_isInstance (T := "StopIteration") (b := true) ⟨_, Heap.get?_push_size _ rfl, rfl⟩ isSubtype_stop ?_)
 exact wpAny_pure (h _ (ext _ fun b o e => Heap.get?_push_of_some _ (Heap.get?_push_of_some _ e)))
theorem unpack_match {env : Env} {e1 e2 e3 : Expr} {x1 : Nat} {pos : Pos} {x dx : Addr} {a b c : Value} {Q : Unit → Shared → Prop} (hh0 : A.handled = none) (X : (KW w.params).In s.heap) (hx : s.heap.get? x = some (matchObj dx #[a, b, c]))
  (hn : (assignEach [e1, e2, e3] env).length = 3) (hstar : (assignEach [e1, e2, e3] env).findIdx? (·.1) = none)
  (h : ∀ h', Heap.ExtBut s.heap.objs.size s.heap h' → wpAny (model pw w) A (assignInOrder ((assignEach [e1, e2, e3] env).map (·.2)) [a, b, c]) Q E { s with heap := h' }) :
  wpAny (model pw w) A (assign (.Tuple [e1, e2, e3] x1 pos) env (.ref x)) Q E s := by
 have hlt : x ≠ s.heap.objs.size := Nat.ne_of_lt (Heap.lt_size hx)
 rw [arm_assign_Tuple]
 refine wpAny_bind (wpAny_standAt ?_)
 unfold unpack
 rw [hn, hstar]
 refine wpAny_bind (wpAny_holding ?_)
 unfold unpackItems
 refine wpAny_bind ?_
 unfold notIterableAtAll
 have l4 : Looks (model pw w) s.heap (specialOf (.ref x) "__iter__") (some (.builtin "tuple.__iter__")) := (match_type hx).andThen (looks_findIn X (match_iter_found w))
 refine wpAny_bind (l4.here (wpAny_pure ?_))
 simp only [Bool.false_eq_true, if_false]
 refine wpAny_bind (wpAny_holding (iter_match X hx ?_))
 have hI : (s.heap.push (tupIter x 0)).get? s.heap.objs.size = some (tupIter x 0) := Heap.get?_push_size _ rfl
 have hx0 : (s.heap.push (tupIter x 0)).get? x = some (matchObj dx #[a, b, c]) := Heap.get?_push_of_some _ hx
 refine wpAny_bind (wpAny_holding ?_)
 unfold draw
 refine wpAny_bind (next_match (i := 0) (s := { s with heap := s.heap.push (tupIter x 0) }) hI hx0 rfl fun h1 i1 s1 => ?_)
 have hx1 := (s1.2 x hlt).trans hx0
 unfold draw
 refine wpAny_bind (wpAny_holding (wpAny_bind (next_match (i := 1) (s := { s with heap := h1 }) i1 hx1 rfl fun h2 i2 s2 => ?_)))
 have hx2 := (s2.2 x hlt).trans hx1
 unfold draw
 refine wpAny_bind (wpAny_holding (wpAny_bind (next_match (i := 2) (s := { s with heap := h2 }) i2 hx2 rfl fun h3 i3 s3 => ?_)))
 have hx3 := (s3.2 x hlt).trans hx2
 unfold draw
 refine wpAny_bind (wpAny_holding (wpAny_pure (wpAny_pure (wpAny_pure (wpAny_pure ?_)))))
 simp only [List.length_cons, List.length_nil, Nat.lt_irrefl, if_false]
 refine wpAny_bind (wpAny_holding (stop_match (s := { s with heap := h3 }) hh0 i3 hx3 fun h4 e4 => ?_))
 simp only [Option.isSome_none, Bool.false_eq_true, if_false]
 refine wpAny_pure (h h4 fun b o hb e => e4 b o hb ?_)
 exact s3.extBut b o hb (s2.extBut b o hb (s1.extBut b o hb (Heap.get?_push_of_some _ e)))
end
theorem tuple_at {h h' : Heap} {T : Addr} {its : Array Value} (x : h.IsTuple T its) (k : ∀ b o, h.get? b = some o → h'.get? b = some o) : h'.IsTuple T its := by obtain ⟨o, ho, r⟩ := x; exact ⟨o, k _ _ ho, r⟩
theorem len_match3 {w : World} {A : Around} {E : Value → Shared → Prop} {s : Shared} {h₀ : Heap} {L x dx : Addr} {news : List (Addr × Obj)} {a b c : Value} {Q : Value → Shared → Prop} (C : Cx w s.heap) (N : News h₀ L s.heap news) (hm : (x, matchObj dx #[a, b, c]) ∈ news)
  (h : ∀ tk tk', Q (.int 3 tk) { s with toks := tk' }) : wpAny (model pw w) A (call (.builtin "len") [.ref x]) Q E s := len_match C.X (N.get hm) (by decide : (3 : Nat) ≤ 10000) h
end
section
theorem mkmk_ {w : World} {A : Around} {E : Value → Shared → Prop} {s : Shared} {Q : Value → Shared → Prop} {bm T : Addr} {a b c : Value}
  (C : Cx w s.heap) (R : Room A 4) (hbm : s.heap.get? bm = some (methodObj (.ref 89) (.ref 135))) (hT : s.heap.IsTuple T #[a, b, c]) (hQ : ∀ h' tk x dx, Keeps s.heap h' → s.heap.get? x = none → h'.get? x = some (matchObj dx #[a, b, c]) → Q (.ref x) { s with heap := h', toks := tk }) :
  wpAny (model pw w) A (call (.ref bm) [.ref T]) Q E s := by
 w_on
 w_strict (
  ((rename Room _ _ => R0); (rename Around => A0); (obtain ⟨hd0, d0, fr0, gd0, u0⟩ := A0); (have hh0 := Room.handled R0); (dsimp only at hh0); (subst hh0); refine wpAny_call ?_)
  refine method_call hbm ?_
  refine' enter [(Str.ofString "cls", .ref 135), (Str.ofString "iterable", .ref T)] ?k1 ?k6 ?k7 ?k8 ?k9 ?kB ?_ ?c2 ?c3 ?c4 ?c5
  ( k_dflt ((case k1 => assumption); (case k6 => k_is); (case k7 => k_is); (case k8 => assumption); (case k9 => walk_at "my binds"); (case c5 => decide); (case kB => exact locs rfl); (case c2 => exact rfl); (case c3 => exact rfl); (case c4 => exact rfl); intro h' F' N' R'; (try dsimp only at F'); (try dsimp only)); have X := Cx.X (by assumption); obtain ⟨mg, mb, T⟩ := Cx.T (by assumption))
  walk_at "my steps"
  with_reducible refine' method_type ?zF ?zX ?zm (by decide +kernel) ?ze ?zh ?_
  case zF => k_asm
  case zX => k_asm
  case zm => first | rfl | kernel_rfl
  case ze => exact tuple_new_found _
  case zh => k_handed
  walk_at "my steps"
  with_reducible refine' tn_call ?zC ?zT ?zz ?_
  case zC => walk_at "my cx"
  case zT => exact tuple_at (by walk_at "a") (Fr.keep (by walk_at "a"))
  case zz => exact (by decide : (3 : Nat) ≤ 10000)
  walk_at "my back"
  walk_at "my steps"
  with_reducible refine' len_match3 ?zC ?zN ?zm ?_
  case zC => walk_at "my cx"
  walk_at "my nm"
  intro _ _
  walk_at "my steps"
  exact hQ _ _ _ _ (Fr.keep (by assumption)) (News.fresh (by walk_at "a") (.head _)) (News.get (by walk_at "a") (.head _)))
end
section
section
variable {w : World} {A : Around} {E : Value → Shared → Prop} {s : Shared}
theorem match_lt_found (w : World) : findIn (KW w.params) (.ref 135) "__lt__" = some (some (.builtin "tuple.__lt__")) := by k_is
theorem match_eq_found (w : World) : findIn (KW w.params) (.ref 135) "__eq__" = some (some (.builtin "tuple.__eq__")) := by k_is
theorem tlt_kind : builtinKind "tuple.__lt__" = some .slot := by decide +kernel
theorem tlt_split : splitId "tuple.__lt__" = some ("tuple", "__lt__") := by decide +kernel
theorem tlt_plain : plainId "tuple.__lt__" = true := by decide +kernel
theorem tlt_args (a b : Value) : argsOk "tuple.__lt__" ⟨[a, b], []⟩ := by unfold argsOk; kernel_rfl
theorem tlt_entry : entryFor table "tuple.__lt__" = some Builtin.«tuple.__lt__» := entryFor_of_tree (by kernel_rfl)
theorem tlt_slot : Slot "tuple" "__lt__" "tuple.__lt__" :=
 .of (owner := "tuple") (n := "__lt__") (by rw [typeLookup_type, builtinLookup_eq_fast]; kernel_rfl) (by decide +kernel) (by decide +kernel) (by decide +kernel)
  (by first | exact .inl (by decide +kernel) | exact .inr (by decide +kernel)) (by rw [isSubtype_type]; kernel_rfl)
theorem lt_match {x y dx dy : Addr} {a b : Int} {t u : Tok} {r r' : List Value} {P : Fin → Shared → Prop} (X : (KW w.params).In s.heap) (hx : s.heap.get? x = some (matchObj dx (.int a t :: r).toArray)) (hy : s.heap.get? y = some (matchObj dy (.int b u :: r').toArray)) (hab : a ≠ b)
  (h : P (.done (.ret (.bool (decide (a < b))))) s) : wpAny (model pw w) A (Builtin.«tuple.__lt__» ⟨[.ref x, .ref y], []⟩) P E s := by
 have l1 := match_isinst (M := model pw w) X hx
 have l2 := match_isinst (M := model pw w) X hy
 obtain ⟨hh, g, d, tk, os⟩ := s
 have body : Builtin.«tuple.__lt__» ⟨[.ref x, .ref y], []⟩ = (do
   let (a, [b]) ← slotArgs "__lt__" 1 ⟨[.ref x, .ref y], []⟩ | unsupported "internal:tuple.compare"
   if !(← isInstance b (.type "tuple")) then return ← ret .notImplemented
   let xs ← Builtin.Tuple.tupleItemsOf a
   let ys ← Builtin.Tuple.tupleItemsOf b
   for (x, y) in xs.toList.zip ys.toList do
    if !(← eqBool x y) then
     match CmpOp.Lt with
     | .Eq => return ← ret (.bool false)
     | .NotEq => return ← ret (.bool true)
     | _ => rule "tuple.compare.by-the-first-pair-that-differs"; return ← ret (← richCompare CmpOp.Lt x y)
   ret (Builtin.Tuple.tupleCompareSizes CmpOp.Lt xs.size ys.size)) := rfl
 rw [body]
 unfold slotArgs Builtin.Tuple.tupleItemsOf
 repeat (first | with_reducible refine wpAny_eqBool_int ?_ | simp only [Bool.false_eq_true, if_false, Bool.not_true] | lk)
 have hab' : (a == b) = false := by simpa using hab
 simp only [hab', Bool.not_false, if_true]
 refine wpAny_bind (wpAny_rule (wpAny_bind ?_))
 refine (show wpAny (model pw w) A (compareOp .Lt (.int a t) (.int b u)) _ _ _ from lt_int ?_)
 exact wpAny_bind (wpAny_pure (wpAny_pure (wpAny_pure (wpAny_pure h))))
theorem key_match {x y dx dy : Addr} {a b : Int} {t u : Tok} {r r' : List Value} {Q : Bool → Shared → Prop} (hu : A.units < cLine) (X : (KW w.params).In s.heap) (hx : s.heap.get? x = some (matchObj dx (.int a t :: r).toArray)) (hy : s.heap.get? y = some (matchObj dy (.int b u :: r').toArray)) (hab : a ≠ b)
  (h : Q (decide (a < b)) s) : wpAny (model pw w) A (keyLt' oneType' (.ref x) (.ref y)) Q E s := by
 rw [keyLt'_oneType, oneLt'_eq]
 simp only [if_true]
 refine wpAny_bind (wpAny_cRoomFor hu ?_)
 have l1 : Looks (model pw w) s.heap (specialOf (.ref x) "__lt__") (some (.builtin "tuple.__lt__")) := (match_type hx).andThen (looks_findIn X (match_lt_found w))
 have l2 := ifBound l1 (Looks.of_pure (tlt_slot.bind (.ref x)))
 unfold callSpecialIfBound?
 refine wpAny_bind (wpAny_holding (wpAny_bind (l2.here ?_)))
 refine wpAny_bind (wpAny_call ?_)
 change codeAny _ _ (.call (.builtin "tuple.__lt__") ⟨[.ref x, .ref y], []⟩) _ _
 refine codeAny_call_builtin tlt_plain tlt_entry (@check_slot (model pw w) _ _ _ "tuple.__lt__" "tuple" "__lt__" (.ref x) [.ref y] [] _ tlt_kind tlt_split (match_isinst X hx) (tlt_args (.ref x) (.ref y)) (lt_match X hx hy hab ?_))
 refine wpAny_pure ?_
 dsimp only
 exact wpAny_bind (wpAny_truthy_bool (wpAny_pure h))
end
end
section
noncomputable def m3 (dx : Addr) (x : Int × Int × Int) (ta tb tc : Tok) : Obj := matchObj dx #[.int x.1 ta, .int x.2.1 tb, .int x.2.2 tc]
noncomputable def IsM (led : List (Addr × Obj)) (v : Value) (x : Int × Int × Int) : Prop := ∃ a dx ta tb tc, v = .ref a ∧ (a, m3 dx x ta tb tc) ∈ led
abbrev Ms (led : List (Addr × Obj)) (vs : List Value) (xs : List (Int × Int × Int)) : Prop := All2 (IsM led) vs xs
theorem IsM.mono {led led' : List (Addr × Obj)} {v : Value} {x : Int × Int × Int} (h : IsM led v x) (k : ∀ p ∈ led, p ∈ led') : IsM led' v x := by obtain ⟨a, dx, ta, tb, tc, e, hm⟩ := h; exact ⟨a, dx, ta, tb, tc, e, k _ hm⟩
theorem Ms.mono {led led' : List (Addr × Obj)} {vs : List Value} {xs : List (Int × Int × Int)} (h : Ms led vs xs) (k : ∀ p ∈ led, p ∈ led') : Ms led' vs xs := All2.mono h fun _ _ r => r.mono k
noncomputable def rk {α : Type} [DecidableEq α] : List α → α → Nat
 | [], _ => 0
 | y :: ys, x => if y = x then 0 else rk ys x + 1
theorem rk_at {α : Type} [DecidableEq α] {x : α} : ∀ {due : List α}, x ∈ due → due[rk due x]? = some x ∧ rk due x < due.length
 | [], h => nomatch h
 | y :: ys, h => by
  unfold rk
  by_cases e : y = x
  ·rw [if_pos e, e]; exact ⟨rfl, by simp⟩
  ·rw [if_neg e]
   rcases List.mem_cons.mp h with rfl | h
   ·exact absurd rfl e
   ·obtain ⟨a, b⟩ := rk_at h
    exact ⟨by simpa using a, by simp; (first | lia | omega)⟩
theorem idx_nodup {α : Type} [DecidableEq α] {due : List α} (hn : due.Nodup) : ∀ {ts : List α}, ts.Nodup → (∀ x ∈ ts, x ∈ due) → (ts.map fun x => rk due x).Nodup
 | [], _, _ => by simp
 | a :: ts, h, hm => by
  rw [List.map_cons, List.nodup_cons]
  rw [List.nodup_cons] at h
  refine ⟨fun hc => ?_, idx_nodup hn h.2 fun x hx => hm x (.tail _ hx)⟩
  obtain ⟨b, hb, e⟩ := List.mem_map.mp hc
  have h1 : due[rk due b]? = some b := (rk_at (hm b (.tail _ hb))).1
  have h2 : due[rk due a]? = some a := (rk_at (hm a (.head _))).1
  rw [e, h2] at h1
  exact h.1 (by cases h1; exact hb)
theorem sort_order {ts due : List (Int × Int × Int)} (hp : ts.Perm due) (hs : due.Pairwise fun x y => x.1 < y.1) (h2 : 2 ≤ due.length) (h4 : due.length ≤ 4) :
  ∃ p : Array Nat, kasRun ts.length (fun i j => decide ((ts.getD i default).1 < (ts.getD j default).1)) (kas_sort ts.length) = some p ∧ (∀ i ∈ p.toList, i < ts.length) ∧ p.toList.map (fun i => ts.getD i default) = due := by
 have hl := hp.length_eq
 have hnd : due.Nodup := hs.imp fun {a b} h e => by rw [e] at h; (first | lia | omega)
 have hnt : ts.Nodup := hp.nodup_iff.mpr hnd
 have hmem : ∀ x ∈ ts, x ∈ due := fun x hx => hp.mem_iff.mp hx
 obtain ⟨r, hr⟩ : ∃ r, r = ts.map fun x => rk due x := ⟨_, rfl⟩
 have hrl : r.length = ts.length := by rw [hr, List.length_map]
 have hri : ∀ i, i < ts.length → r.getD i 0 < due.length ∧ due.getD (r.getD i 0) default = ts.getD i default := by
  intro i hi
  have e1 : r.getD i 0 = rk due ts[i] := by rw [hr]; simp [hi]
  have hm := hmem ts[i] (List.getElem_mem hi)
  have h1 : due[rk due ts[i]]? = some ts[i] := (rk_at hm).1
  refine ⟨by rw [e1]; exact (rk_at hm).2, ?_⟩
  rw [e1, List.getD_eq_getElem?_getD, h1, List.getD_eq_getElem?_getD, List.getElem?_eq_getElem hi]
 obtain ⟨p, hp1, hp2, hp3⟩ := sort_ranks (n := ts.length) (by (first | lia | omega)) (by (first | lia | omega)) hrl (fun x hx => by
  rw [hr] at hx
  obtain ⟨y, hy, rfl⟩ := List.mem_map.mp hx
  rw [hl]; exact (rk_at (hmem y hy)).2) (by rw [hr]; exact idx_nodup hnd hnt hmem)
 refine ⟨p, ?_, hp3, ?_⟩
 ·rw [← hp1]
  refine kasRun_congr (fun i j hi hj _ => ?_) _
  obtain ⟨a1, a2⟩ := hri i hi
  obtain ⟨b1, b2⟩ := hri j hj
  rw [← a2, ← b2]
  generalize r.getD i 0 = x at a1
  generalize r.getD j 0 = y at b1
  have key : ∀ u v, u < v → v < due.length → (due.getD u default).1 < (due.getD v default).1 := fun u v huv hv => by
   have := List.pairwise_iff_getElem.mp hs u v (by (first | lia | omega)) hv huv
   simpa [show u < due.length by (first | lia | omega), hv] using this
  rcases Nat.lt_trichotomy x y with q | q | q
  ·have := key x y q b1
   rw [decide_eq_decide]; exact ⟨fun _ => q, fun _ => this⟩
  ·subst q; simp
  ·have := key y x q a1
   rw [decide_eq_decide]
   exact ⟨fun z => by (first | lia | omega), fun z => by (first | lia | omega)⟩
 ·have h1 : p.toList.map (fun i => ts.getD i default) = p.toList.map (fun i => due.getD (r.getD i 0) default) := List.map_congr_left fun i hi => ((hri i (hp3 i hi)).2).symm
  have h2 : p.toList.map (fun i => due.getD (r.getD i 0) default) = (p.toList.map fun i => r.getD i 0).map fun k => due.getD k default := by rw [List.map_map]; rfl
  rw [h1, h2, hp2, hl]
  apply List.ext_getElem?
  intro k
  rw [List.getElem?_map]
  by_cases hk : k < due.length
  ·rw [List.getElem?_range hk]; simp [hk]
  ·rw [List.getElem?_eq_none (by simp; (first | lia | omega)), List.getElem?_eq_none (by (first | lia | omega))]; rfl
theorem IsM.look {led : List (Addr × Obj)} {v : Value} {x : Int × Int × Int} (h : IsM led v x) : ∃ a dx t r, v = .ref a ∧ (a, matchObj dx (.int x.1 t :: r).toArray) ∈ led := by obtain ⟨a, dx, ta, _, _, e, hm⟩ := h; exact ⟨a, dx, ta, _, e, hm⟩
theorem perm_short {α : Type} {ts due : List α} (hp : ts.Perm due) (h : due.length < 2) : ts = due := by
 have hl := hp.length_eq
 match due, ts, h, hl with
 | [], [], _, _ => rfl
 | [a], [b], _, _ => rw [List.singleton_perm_singleton.mp hp]
 | _ :: _ :: _, _, h, _ => simp at h; (first | lia | omega)
section
variable {w : World} {A : Around} {E : Value → Shared → Prop} {s : Shared} {h₀ : Heap} {L D : Addr} {m : Str → Option Value} {rest : List (Addr × Obj)}
theorem sort_short {its : Array Value} {n : Nat} {Q : Value → Shared → Prop} (F : Fr h₀ L s.heap m) (N : News h₀ L s.heap ((D, listOf its n) :: rest)) (hr : ∀ p ∈ rest, p.1 ≠ D) (h2 : its.size < 2)
  (h : ∀ h' n', Fr h₀ L h' m → News h₀ L h' ((D, listOf its n') :: rest) → Q .none { s with heap := h' }) : wpAny (model pw w) A (call (.builtin "list.sort") [.ref D]) Q E s := by
 have nz := N _ (.head _)
 have ho : s.heap.get? D = some (seqObj "list" its n) := nz.1
 refine wpAny_call_entry slot_list_sort ⟨_, nz.1, rfl⟩ entry_list_sort ?_ (args_list_sort _)
 rw [list_sort_plain]
 obtain ⟨e1, ho1⟩ : ∃ e1, (s.heap.update D (Obj.mapSeq fun _ => (#[] : Array Value))).get? D = some (seqObj "list" #[] e1) := ⟨_, get?_update_seq ho fun _ => #[]⟩
 refine wpAny_bind (listItems_at ho rfl ?_)
 refine wpAny_bind (listUpdate_at ho rfl ?_ (by rw [sizeLine_eq]; (first | lia | omega)) (Nat.zero_le _))
 refine wpAny_bind (seqEpoch_at ho1 rfl ?_)
 refine wpAny_bind (wpAny_newTuple ?_ (by show its.toList.length ≤ _; rw [sizeLine_eq, Array.length_toList]; (first | lia | omega)))
 refine wpAny_bind (wpAny_newList ?_ (Nat.zero_le _))
 refine wpAny_holding ?_
 rw [if_pos h2, if_pos h2]
 refine wpAny_bind (wpAny_pure (wpAny_bind (wpAny_pure ?_)))
 have ho3 := Heap.get?_push_of_some (seqObj "list" #[] 0) (Heap.get?_push_of_some (seqObj "tuple" its.toList.toArray 0) ho1)
 have e0 : (arrOf (SortSt.mk' general' (its.zip its) #[] 7 none)).map (·.2) = its := by
  show (its.zip its).map (·.2) = its
  apply Array.toList_inj.mp
  rw [Array.toList_map, Array.toList_zip]
  generalize its.toList = l
  induction l with
  | nil => rfl
  | cons a l ih => simp [ih]
 show wpAny _ _ (seqEpoch D >>= _) _ _ { s with heap := ((s.heap.update D (Obj.mapSeq fun _ => (#[] : Array Value))).push (seqObj "tuple" its.toList.toArray 0)).push (seqObj "list" #[] 0) }
 refine wpAny_bind (seqEpoch_at ho3 rfl ?_)
 rw [e0]
 refine wpAny_bind (listUpdate_at ho3 rfl ?_ (Nat.zero_le _) (by show its.size ≤ _; rw [sizeLine_eq]; (first | lia | omega)))
 simp only [bne_self_eq_false, Bool.false_eq_true, if_false]
 show wpAny _ _ (ret Value.none) _ _ _
 refine wpAny_pure ⟨_, rfl, ?_⟩
 obtain ⟨n', hn'⟩ : ∃ n', ((((s.heap.update D (Obj.mapSeq fun _ => (#[] : Array Value))).push (seqObj "tuple" its.toList.toArray 0)).push (seqObj "list" #[] 0)).update D (Obj.mapSeq fun _ => its)).get? D = some (seqObj "list" its n') := ⟨_, get?_update_seq ho3 fun _ => its⟩
 have s1 := Heap.SameBut.update s.heap D (Obj.mapSeq fun _ => (#[] : Array Value))
 have s2 := Heap.SameBut.update (((s.heap.update D (Obj.mapSeq fun _ => (#[] : Array Value))).push (seqObj "tuple" its.toList.toArray 0)).push (seqObj "list" #[] 0)) D (Obj.mapSeq fun _ => its)
 have F3 := kas_fr (((kas_fr F s1 nz.2.1 nz.2.2).push (seqObj "tuple" its.toList.toArray 0)).push (seqObj "list" #[] 0)) s2 nz.2.1 nz.2.2
 have N1 : News h₀ L s.heap rest := fun p hp => N p (.tail _ hp)
 have N3 := kas_news ((kas_news N1 s1 hr).grown fun b x e => Heap.get?_push_of_some (seqObj "list" #[] 0) (Heap.get?_push_of_some (seqObj "tuple" its.toList.toArray 0) e)) s2 hr
 exact h _ n' F3 fun p hp => by
  rcases List.mem_cons.mp hp with rfl | hp
  ·exact ⟨hn', nz.2⟩
  ·exact N3 p hp
theorem sort_matches {its : Array Value} {n nn : Nat} {ts due : List (Int × Int × Int)} {Q : Value → Shared → Prop} (C : Cx w h₀) (R : Room A (nn + 1)) (F : Fr h₀ L s.heap m) (N : News h₀ L s.heap ((D, listOf its n) :: rest)) (hr : ∀ p ∈ rest, p.1 ≠ D)
  (hM : Ms rest its.toList ts) (hp : ts.Perm due) (hs : due.Pairwise fun x y => x.1 < y.1) (h4 : due.length ≤ 4)
  (h : ∀ h' its' n', Fr h₀ L h' m → News h₀ L h' ((D, listOf its' n') :: rest) → Ms rest its'.toList due → Q .none { s with heap := h' }) : wpAny (model pw w) A (call (.builtin "list.sort") [.ref D]) Q E s := by
 have hl := hp.length_eq
 have hlen := All2.length hM
 rw [Array.length_toList] at hlen
 by_cases h2 : its.size < 2
 ·have e := perm_short hp (by (first | lia | omega))
  subst e
  exact sort_short F N hr h2 fun h' n' F' N' => h h' its n' F' N' hM
 ·have hlv : its.toList.length = ts.length := All2.length hM
  refine kas_lsort (vs := its.toList) (T := .ref 135) F N (.head hr) rfl (by (first | lia | omega)) (by (first | lia | omega)) (fun e1 h' F' N' v hv => ?_) (by decide) fun e1 h' F' N' => ?_
  ·obtain ⟨k, hk⟩ := List.mem_iff_getElem?.mp hv
   obtain ⟨b, _, hb⟩ := hM.getL hk
   obtain ⟨a, dx, t, r, rfl, hm⟩ := hb.look
   exact match_type (N' _ (.tail _ hm)).1
  ·obtain ⟨p, p1, p2, p3⟩ := sort_order hp hs (by (first | lia | omega)) h4
   rw [← hlv] at p1
   refine kasRun_wp (fun i j Cc hi hj hij q => ?_) _ p1 ?_
   ·unfold kas_ask
    have hgi : its.toList[i]? = some (its.toList.getD i Value.none) := by simp [List.getElem?_eq_getElem hi]
    have hgj : its.toList[j]? = some (its.toList.getD j Value.none) := by simp [List.getElem?_eq_getElem hj]
    obtain ⟨bi, hbi, mi⟩ := hM.getL hgi
    obtain ⟨bj, hbj, mj⟩ := hM.getL hgj
    obtain ⟨ai, di, ti, ri, ei, hmi⟩ := mi.look
    obtain ⟨aj, dj, tj, rj, ej, hmj⟩ := mj.look
    have e1' : ts.getD i default = bi := by simp [List.getD_eq_getElem?_getD, hbi]
    have e2' : ts.getD j default = bj := by simp [List.getD_eq_getElem?_getD, hbj]
    rw [ei, ej]
    rw [e1', e2'] at q
    have hne : bi.1 ≠ bj.1 := by
     have hni : ∀ u v, u < v → v < due.length → (due.getD u default).1 < (due.getD v default).1 := fun u v huv hv => by
      have := List.pairwise_iff_getElem.mp hs u v (by (first | lia | omega)) hv huv
      simpa [show u < due.length by (first | lia | omega), hv] using this
     have hnd : ts.Nodup := hp.nodup_iff.mpr (hs.imp fun {a b} h e => by rw [e] at h; (first | lia | omega))
     have hbne : bi ≠ bj := fun e => by
      have := List.pairwise_iff_getElem.mp hnd
      obtain ⟨i1, i2⟩ := List.getElem?_eq_some_iff.mp hbi
      obtain ⟨j1, j2⟩ := List.getElem?_eq_some_iff.mp hbj
      rcases Nat.lt_trichotomy i j with z | z | z
      ·exact this i j i1 j1 z (by rw [i2, j2, e])
      ·exact hij z
      ·exact this j i j1 i1 z (by rw [i2, j2, e])
     have m1 := hp.mem_iff.mp (List.mem_of_getElem? hbi)
     have m2 := hp.mem_iff.mp (List.mem_of_getElem? hbj)
     obtain ⟨u, hu, eu⟩ := List.getElem_of_mem m1
     obtain ⟨v, hv, ev⟩ := List.getElem_of_mem m2
     have gu : due.getD u default = bi := by simp [hu, eu]
     have gv : due.getD v default = bj := by simp [hv, ev]
     rcases Nat.lt_trichotomy u v with z | z | z
     ·have := hni u v z hv; rw [gu, gv] at this; (first | lia | omega)
     ·subst z; exact absurd (gu.symm.trans gv) hbne
     ·have := hni v u z hu; rw [gu, gv] at this; (first | lia | omega)
    exact key_match (Room.unitsLt (R.in1)) (C.keeps F'.keep).X (N' _ (.tail _ hmi)).1 (N' _ (.tail _ hmj)).1 hne q
   ·refine KasFin.intro F' N' (.head hr) fun h'' c F'' N'' => ?_
    refine h h'' _ c F'' N'' ?_
    rw [← p3]
    show All2 _ (p.toList.map fun i => its.toList.getD i Value.none) _
    clear p1 p3 N' F' N'' F''
    generalize p.toList = l at p2
    induction l with
    | nil => exact .nil
    | cons i l ih =>
     have hi : i < ts.length := p2 i (.head _)
     have hgi : its.toList[i]? = some (its.toList.getD i Value.none) := by simp [List.getElem?_eq_getElem (show i < its.toList.length by (first | lia | omega))]
     obtain ⟨bi, hbi, mi⟩ := hM.getL hgi
     have e1' : ts.getD i default = bi := by simp [List.getD_eq_getElem?_getD, hbi]
     refine .cons _ _ _ _ (by show IsM rest (its.toList.getD i Value.none) (ts.getD i default); rw [e1']; exact mi) (ih fun x hx => p2 x (.tail _ hx))
end
end
section
noncomputable def t4 (x : Win) (ta tb tc td : Tok) : Obj := { cls := .type "tuple", data := .seq #[.int ((x.alo : Nat) : Int) ta, .int ((x.ahi : Nat) : Int) tb, .int ((x.blo : Nat) : Int) tc, .int ((x.bhi : Nat) : Int) td] }
noncomputable def IsW (led : List (Addr × Obj)) (v : Value) (x : Win) : Prop := ∃ a ta tb tc td, v = .ref a ∧ (a, t4 x ta tb tc td) ∈ led
abbrev Ws (led : List (Addr × Obj)) (vs : List Value) (xs : List Win) : Prop := All2 (IsW led) vs xs
theorem IsW.mono {led led' : List (Addr × Obj)} {v : Value} {x : Win} (h : IsW led v x) (k : ∀ p ∈ led, p ∈ led') : IsW led' v x := by obtain ⟨a, ta, tb, tc, td, e, hm⟩ := h; exact ⟨a, ta, tb, tc, td, e, k _ hm⟩
theorem Ws.mono {led led' : List (Addr × Obj)} {vs : List Value} {xs : List Win} (h : Ws led vs xs) (k : ∀ p ∈ led, p ∈ led') : Ws led' vs xs := All2.mono h fun _ _ r => r.mono k
theorem All2.unsnoc {α β : Type} {R : α → β → Prop} {as : List α} {bs : List β} {b : β} (h : All2 R as (bs ++ [b])) : ∃ as' a, as = as' ++ [a] ∧ All2 R as' bs ∧ R a b := by
 induction bs generalizing as with
 | nil =>
  cases h with
  | cons a _ as' _ r t =>
   cases t
   exact ⟨[], a, rfl, .nil, r⟩
 | cons b' bs ih =>
  cases h with
  | cons a _ as' _ r t =>
   obtain ⟨as'', a', rfl, h1, h2⟩ := ih t
   exact ⟨a :: as'', a', rfl, .cons _ _ _ _ r h1, h2⟩
theorem All2.unsnoc' {α β : Type} {R : α → β → Prop} {as : List α} {bs : List β} {a : α} (h : All2 R (as ++ [a]) bs) : ∃ bs' b, bs = bs' ++ [b] ∧ All2 R as bs' ∧ R a b := by
 induction as generalizing bs with
 | nil =>
  cases h with
  | cons _ b _ bs' r t =>
   cases t
   exact ⟨[], b, rfl, .nil, r⟩
 | cons a' as ih =>
  cases h with
  | cons _ b _ bs' r t =>
   obtain ⟨bs'', b', rfl, h1, h2⟩ := ih t
   exact ⟨b :: bs'', b', rfl, .cons _ _ _ _ r h1, h2⟩
noncomputable def WOk (A B : List Str) (x : Win) : Prop := x.alo ≤ x.ahi ∧ x.ahi ≤ A.length ∧ x.blo ≤ x.bhi ∧ x.bhi ≤ B.length
noncomputable def WB (A B : List Str) (x : Win) (l : List (Int × Int × Int)) : Prop := WOk A B x ∧ Blks A B x.alo x.ahi x.blo x.bhi l
theorem wok {A B : List Str} {a b c d : Nat} (h1 : a ≤ b) (h2 : b ≤ A.length) (h3 : c ≤ d) (h4 : d ≤ B.length) : WOk A B ⟨a, b, c, d⟩ := ⟨h1, h2, h3, h4⟩
noncomputable def wsumZ : List Win → Nat
 | [] => 0
 | x :: xs => 2 * (x.ahi - x.alo) + 1 + wsumZ xs
theorem wsum_append : ∀ (xs ys : List Win), wsumZ (xs ++ ys) = wsumZ xs + wsumZ ys
 | [], ys => by simp [wsumZ]
 | x :: xs, ys => by rw [List.cons_append, wsumZ, wsumZ, wsum_append xs ys]; lia
theorem wsum_len : ∀ xs : List Win, xs.length ≤ wsumZ xs
 | [] => Nat.le_refl _
 | x :: xs => by have := wsum_len xs; simp only [List.length_cons, wsumZ]; lia
structure GmInv (A B : List Str) (due : List (Int × Int × Int)) (M : List (Int × Int × Int)) (W : List Win) : Prop where
 due : ∃ Ls, All2 (WB A B) W Ls ∧ (M ++ Ls.flatten).Perm due
theorem gm_len {A B : List Str} {due M : List (Int × Int × Int)} {W : List Win} (h : GmInv A B due M W) : M.length ≤ due.length := by
 obtain ⟨Ls, _, hp⟩ := h.due
 have := hp.length_eq
 rw [List.length_append] at this; lia
theorem gm_start {A B : List Str} {due : List (Int × Int × Int)} (h : Blks A B 0 A.length 0 B.length due) : GmInv A B due [] [⟨0, A.length, 0, B.length⟩] :=
 ⟨⟨[due], .cons _ _ _ _ ⟨⟨Nat.zero_le _, Nat.le_refl _, Nat.zero_le _, Nat.le_refl _⟩, h⟩ .nil, by simp⟩⟩
theorem gm_end {A B : List Str} {due M : List (Int × Int × Int)} (h : GmInv A B due M []) : M.Perm due := by
 obtain ⟨Ls, hL, hp⟩ := h.due
 cases hL
 simpa using hp
theorem gm_ok {A B : List Str} {due M : List (Int × Int × Int)} {W : List Win} {x : Win} (h : GmInv A B due M (W ++ [x])) : WOk A B x := by
 obtain ⟨Ls, hL, hp⟩ := h.due
 obtain ⟨bs', b, rfl, h1, h2⟩ := hL.unsnoc'
 exact h2.1
theorem gm_none {A B : List Str} {due M : List (Int × Int × Int)} {W : List Win} {x : Win} {i j : Nat} (h : GmInv A B due M (W ++ [x])) (hb : IsBest A B x.alo x.ahi x.blo x.bhi 0 i j) : GmInv A B due M W := by
 obtain ⟨Ls, hL, hp⟩ := h.due
 obtain ⟨bs', b, rfl, h1, h2⟩ := hL.unsnoc'
 have e : b = [] := by
  by_cases q : x.alo < x.ahi ∧ x.blo < x.bhi
  ·exact (blks_open h2.2 hb q.1 q.2).1 rfl
  ·exact blks_empty h2.2 q
 subst e
 exact ⟨⟨bs', h1, by simpa using hp⟩⟩
theorem gw9 {a i h w : Nat} (h1 : a ≤ i) (h2 : i < h) : w + (2 * (i - a) + 1 + 0) + 0 < w + (2 * (h - a) + 1 + 0) := Nat.add_lt_add_left (Nat.succ_lt_succ (Nat.mul_lt_mul_of_pos_left (Nat.sub_lt_sub_right h1 h2) (Nat.succ_pos 1))) w
theorem gw10 {a i h w : Nat} (h1 : a < h) (h2 : a < i) : w + 0 + (2 * (h - i) + 1 + 0) < w + (2 * (h - a) + 1 + 0) := Nat.add_lt_add_left (Nat.succ_lt_succ (Nat.mul_lt_mul_of_pos_left (Nat.sub_lt_sub_left h1 h2) (Nat.succ_pos 1))) w
theorem gw8 {a i k h w : Nat} (h1 : a < i) (h2 : i + k < h) (hk : 0 < k) : w + (2 * (i - a) + 1 + 0) + (2 * (h - (i + k)) + 1 + 0) < w + (2 * (h - a) + 1 + 0) := by
 obtain ⟨p, rfl⟩ := Nat.le.dest (Nat.le_of_lt h1)
 obtain ⟨q, rfl⟩ := Nat.le.dest (Nat.le_of_lt h2)
 rw [Nat.add_sub_cancel_left, Nat.add_sub_cancel_left, Nat.add_assoc a, Nat.add_assoc a, Nat.add_sub_cancel_left]
 clear h1 h2
 lia
theorem gm_some {A B : List Str} {due M : List (Int × Int × Int)} {W : List Win} {x : Win} {i j k : Nat} (h : GmInv A B due M (W ++ [x])) (hb : IsBest A B x.alo x.ahi x.blo x.bhi k i j) (hk : 0 < k) :
  GmInv A B due (M ++ [((i : Int), (j : Int), (k : Int))]) (W ++ (if x.alo < i ∧ x.blo < j then [⟨x.alo, i, x.blo, j⟩] else []) ++ (if i + k < x.ahi ∧ j + k < x.bhi then [⟨i + k, x.ahi, j + k, x.bhi⟩] else [])) ∧
  wsumZ (W ++ (if x.alo < i ∧ x.blo < j then [⟨x.alo, i, x.blo, j⟩] else []) ++ (if i + k < x.ahi ∧ j + k < x.bhi then [⟨i + k, x.ahi, j + k, x.bhi⟩] else [])) < wsumZ (W ++ [x]) := by
 obtain ⟨Ls, hL, hp⟩ := h.due
 obtain ⟨bs', b, rfl, h1, h2⟩ := hL.unsnoc'
 obtain ⟨⟨o1, o2, o3, o4⟩, hB⟩ := h2
 obtain ⟨a1, a2, a3, a4, -, -, -⟩ := id hb
 obtain ⟨l1, l2, rfl, B1, B2⟩ := (blks_open hB hb (by lia) (by lia)).2 hk
 refine ⟨?_, ?_⟩
 ·by_cases q1 : x.alo < i ∧ x.blo < j <;> by_cases q2 : i + k < x.ahi ∧ j + k < x.bhi
  ·rw [if_pos q1, if_pos q2]
   refine ⟨⟨bs' ++ [l1] ++ [l2], (h1.snoc ⟨wok a1 (by lia) a3 (by lia), B1⟩).snoc ⟨wok a2 o2 a4 o4, B2⟩, ?_⟩⟩
   refine List.Perm.trans ?_ hp
   simp only [List.flatten_append, List.flatten_cons, List.flatten_nil, List.append_nil, List.append_assoc]
   refine List.Perm.append_left M ?_
   refine (List.perm_append_comm (l₁ := [((i : Int), (j : Int), (k : Int))])).trans ?_
   simp only [List.append_assoc]
   refine List.Perm.append_left _ (List.Perm.append_left _ List.perm_append_comm)
  ·rw [if_pos q1, if_neg q2, List.append_nil]
   have e := blks_empty B2 (by lia)
   subst e
   refine ⟨⟨bs' ++ [l1], h1.snoc ⟨wok a1 (by lia) a3 (by lia), B1⟩, ?_⟩⟩
   refine List.Perm.trans ?_ hp
   simp only [List.flatten_append, List.flatten_cons, List.flatten_nil, List.append_nil, List.append_assoc]
   refine List.Perm.append_left M ?_
   refine (List.perm_append_comm (l₁ := [((i : Int), (j : Int), (k : Int))])).trans ?_
   simp only [List.append_assoc]
   exact List.Perm.refl _
  ·rw [if_neg q1, if_pos q2, List.append_nil]
   have e := blks_empty B1 q1
   subst e
   refine ⟨⟨bs' ++ [l2], h1.snoc ⟨wok a2 o2 a4 o4, B2⟩, ?_⟩⟩
   refine List.Perm.trans ?_ hp
   simp only [List.flatten_append, List.flatten_cons, List.flatten_nil, List.append_nil, List.append_assoc, List.nil_append]
   refine List.Perm.append_left M ?_
   refine (List.perm_append_comm (l₁ := [((i : Int), (j : Int), (k : Int))])).trans ?_
   simp only [List.append_assoc]
   exact List.Perm.append_left _ List.perm_append_comm
  ·rw [if_neg q1, if_neg q2, List.append_nil, List.append_nil]
   have e := blks_empty B1 q1
   have e2 := blks_empty B2 (by lia)
   subst e e2
   refine ⟨⟨bs', h1, ?_⟩⟩
   refine List.Perm.trans ?_ hp
   simp only [List.flatten_append, List.flatten_cons, List.flatten_nil, List.append_nil, List.append_assoc, List.nil_append]
   refine List.Perm.append_left M ?_
   exact List.perm_append_comm (l₁ := [((i : Int), (j : Int), (k : Int))])
 ·rw [wsum_append, wsum_append, wsum_append]
  by_cases q1 : x.alo < i ∧ x.blo < j
  ·rw [if_pos q1]
   by_cases q2 : i + k < x.ahi ∧ j + k < x.bhi
   ·rw [if_pos q2]; exact gw8 q1.1 q2.1 hk
   ·rw [if_neg q2]; exact gw9 (Nat.le_of_lt q1.1) (Nat.lt_of_lt_of_le (Nat.lt_add_of_pos_right hk) a2)
  ·rw [if_neg q1]
   by_cases q2 : i + k < x.ahi ∧ j + k < x.bhi
   ·rw [if_pos q2]; exact gw10 (Nat.lt_of_le_of_lt a1 (Nat.lt_trans (Nat.lt_add_of_pos_right hk) q2.1)) (Nat.lt_of_le_of_lt a1 (Nat.lt_add_of_pos_right hk))
   ·rw [if_neg q2]; exact Nat.lt_add_of_pos_right (Nat.succ_pos _)
end
section
section
open SeqAt AutoSeq1 MeetsSeq MeetsSeq2 MeetsSeq3 SeqRoads2
variable {w : World} {A : Around} {E : Value → Shared → Prop} {s : Shared}
theorem teq_kind : builtinKind "tuple.__eq__" = some .slot := by decide +kernel
theorem teq_split : splitId "tuple.__eq__" = some ("tuple", "__eq__") := by decide +kernel
theorem teq_plain : plainId "tuple.__eq__" = true := by decide +kernel
theorem eq_match {x y dx : Addr} {a b c : Int} {t1 t2 t3' u1 u2 u3 : Tok} {P : Fin → Shared → Prop} (X : (KW w.params).In s.heap) (hx : s.heap.get? x = some (matchObj dx #[.int a t1, .int b t2, .int c t3'])) (hy : s.heap.get? y = some (t3 (a, b, c) u1 u2 u3))
  (h : P (.done (.ret (.bool true))) s) : wpAny (model pw w) A (Builtin.«tuple.__eq__» ⟨[.ref x, .ref y], []⟩) P E s := by
 have l1 := match_isinst (M := model pw w) X hx
 have l2 : Looks (model pw w) s.heap (isInstance (.ref y) (.type "tuple")) true := (Looks.ld hy).andThen (Looks.of_pure (by kernel_rfl))
 obtain ⟨hh, g, d, tk, os⟩ := s
 have body : Builtin.«tuple.__eq__» ⟨[.ref x, .ref y], []⟩ = (do
   let (a, [b]) ← slotArgs "__eq__" 1 ⟨[.ref x, .ref y], []⟩ | unsupported "internal:tuple.compare"
   if !(← isInstance b (.type "tuple")) then return ← ret .notImplemented
   let xs ← Builtin.Tuple.tupleItemsOf a
   let ys ← Builtin.Tuple.tupleItemsOf b
   for (x, y) in xs.toList.zip ys.toList do
    if !(← eqBool x y) then
     match CmpOp.Eq with
     | .Eq => return ← ret (.bool false)
     | .NotEq => return ← ret (.bool true)
     | _ => rule "tuple.compare.by-the-first-pair-that-differs"; return ← ret (← richCompare CmpOp.Eq x y)
   ret (Builtin.Tuple.tupleCompareSizes CmpOp.Eq xs.size ys.size)) := rfl
 rw [body]
 unfold slotArgs Builtin.Tuple.tupleItemsOf
 repeat (first | with_reducible refine wpAny_eqBool_int ?_ | simp only [Bool.false_eq_true, if_false, Bool.not_true, beq_self_eq_true] | lk)
 exact h
theorem rc_match {x y dx : Addr} {a b c : Int} {t1 t2 t3' u1 u2 u3 : Tok} {Q : Value → Shared → Prop} (hu : A.units < cLine) (X : (KW w.params).In s.heap) (hx : s.heap.get? x = some (matchObj dx #[.int a t1, .int b t2, .int c t3'])) (hy : s.heap.get? y = some (t3 (a, b, c) u1 u2 u3))
  (h : Q (.bool true) s) : wpAny (model pw w) A (richCompare .Eq (.ref x) (.ref y)) Q E s := by
 have l1 : Looks (model pw w) s.heap (specialOf (.ref x) "__eq__") (some (.builtin "tuple.__eq__")) := (match_type hx).andThen (looks_findIn X (match_eq_found w))
 have l2 : Looks (model pw w) s.heap (bindSpecialIfBound? (.ref x) (cmpInfo .Eq).2.1) _ := ifBound l1 (Looks.of_pure (PySem.F.slot_tuple_eq.bind (.ref x)))
 have l3 := match_type (M := model pw w) hx
 have l4 : Looks (model pw w) s.heap (typeOf (.ref y)) (.type "tuple") := (Looks.ld hy).andThen .now
 have l5 : Looks (model pw w) s.heap (isSubtype (.type "tuple") (.ref 135)) false := Looks.of_pure (by kernel_rfl)
 have l6 := match_isinst (M := model pw w) X hx
 have hne : (Value.ref 135 != Value.type "tuple") = true := by decide
 obtain ⟨hh, g, d, tk, os⟩ := s
 unfold richCompare oneThing? tryCompare callSpecialIfBound?
 refine wpAny_holding (wpAny_bind (wpAny_cRoomFor hu ?_))
 repeat (first | with_reducible refine wpAny_call ?_ | simp only [Bool.false_eq_true, if_false, Bool.not_true, hne, if_true] | lk)
 change codeAny _ _ (.call (.builtin "tuple.__eq__") ⟨[.ref x, .ref y], []⟩) _ _
 refine codeAny_call_builtin teq_plain F.entry_tuple_eq (@check_slot (model pw w) _ _ _ "tuple.__eq__" "tuple" "__eq__" (.ref x) [.ref y] [] _ teq_kind teq_split l6 (F.args_tuple_eq_2 _ _) (eq_match X hx hy ?_))
 refine wpAny_pure ?_
 dsimp only
 exact wpAny_pure (wpAny_pure h)
theorem list_eq_loop {l b : Addr} {items items2 : Array Value} {n n2 : Nat} {R : Result → Shared → Prop} (hl : s.heap.get? l = some (listOf items n)) (hb : s.heap.get? b = some (listOf items2 n2)) (hsz : items.size = items2.size)
  (he : ∀ (j : Nat) v1 v2, items[j]? = some v1 → items2[j]? = some v2 → ∀ (E : Value → Shared → Prop) (Q : Bool → Shared → Prop), Q true s → wpAny (model pw w) A.in1 (eqBool v1 v2) Q E s) (h : R (.ok (.ret (.bool true))) s) (k : Nat) :
  ∀ i : Nat, items.size - i = k → codeAny (model pw w) A (.builtin "list.__eq__.loop" ⟨[.ref l, .ref b, rawInt i, rawInt 2], []⟩) R s := by
 induction k with
 | zero =>
  intro i hk
  obtain ⟨hp, g, d, tk, os⟩ := s
  refine codeAny_builtin MeetsSeq3.entry_eq_loop ?_
  rw [Around.under_plainId MeetsSeq3.plain_eq_loop _]
  repeat (first | with_reducible apply wpAny_loadPart' hl | with_reducible apply wpAny_loadPart' hb | walk_at "q")
  have hi1 : items[((i : Nat) : Int).toNat]? = none := by simp; (first | lia | omega)
  have hi2 : items2[((i : Nat) : Int).toNat]? = none := by simp; (first | lia | omega)
  rw [hi1, hi2]
  repeat (first | with_reducible apply wpAny_loadPart' hl | with_reducible apply wpAny_loadPart' hb | walk_at "q")
  show R (.ok (.ret (.bool (items.size == items2.size)))) _
  rw [hsz, beq_self_eq_true]
  exact h
 | succ k ih =>
  intro i hk
  obtain ⟨hp, g, d, tk, os⟩ := s
  refine codeAny_builtin MeetsSeq3.entry_eq_loop ?_
  rw [Around.under_plainId MeetsSeq3.plain_eq_loop _]
  repeat (first | with_reducible apply wpAny_loadPart' hl | with_reducible apply wpAny_loadPart' hb | walk_at "q")
  have hlt : i < items.size := by (first | lia | omega)
  have hlt2 : i < items2.size := by (first | lia | omega)
  have hi1 : items[((i : Nat) : Int).toNat]? = some items[i] := by simp [hlt]
  have hi2 : items2[((i : Nat) : Int).toNat]? = some items2[i] := by simp [hlt2]
  have hc : ((i : Int) + 1) = ((i + 1 : Nat) : Int) := by push_cast; rfl
  rw [hi1, hi2]
  refine wpAny_bind (he i _ _ (by simp [hlt]) (by simp [hlt2]) _ _ ?_)
  repeat walk_at "q"
  rw [hc]
  exact ⟨plainId_quiet MeetsSeq3.plain_eq_loop _, ih (i + 1) (by first | exact nN (by assumption) | lia)⟩
theorem list_eq_wp {l b : Addr} {items items2 : Array Value} {n n2 : Nat} {Q : Value → Shared → Prop} (hu : A.units < cLine) (hl : s.heap.get? l = some (listOf items n)) (hb : s.heap.get? b = some (listOf items2 n2)) (hsz : items.size = items2.size)
  (he : ∀ (j : Nat) v1 v2, items[j]? = some v1 → items2[j]? = some v2 → ∀ (E : Value → Shared → Prop) (Q : Bool → Shared → Prop), Q true s → wpAny (model pw w) A.in1 (eqBool v1 v2) Q E s) (h : Q (.bool true) s) :
  wpAny (model pw w) A (richCompare .Eq (.ref l) (.ref b)) Q E s := by
 refine wpAny_richCompare_same_room ⟨_, hl, rfl⟩ ⟨_, hb, rfl⟩ F.slot_list_eq ?_ hu
 refine wpAny_call (codeAny_call_builtin F.slot_list_eq.plain F.entry_list_eq (F.slot_list_eq.check _ _ _ _ _ _ _ _ ⟨_, hl, rfl⟩ (F.args_list_eq_2 _ _) ?_))
 obtain ⟨hp, g, d, tk, os⟩ := s
 have f3 := AutoSeq1.sub_list_list
 have hne : ¬ (items.size != items2.size) = true := by simp [hsz]
 repeat (first | with_reducible apply wpAny_loadPart' hl | with_reducible apply wpAny_loadPart' hb | walk_at "q")
 exact ⟨plainId_quiet MeetsSeq3.plain_eq_loop _, list_eq_loop hl hb hsz he ⟨(fun x => nomatch x), h⟩ _ 0 rfl⟩
theorem eqB_match {x y dx : Addr} {a b c : Int} {t1 t2 t3' u1 u2 u3 : Tok} {Q : Bool → Shared → Prop} (hu : A.units < cLine) (X : (KW w.params).In s.heap) (hx : s.heap.get? x = some (matchObj dx #[.int a t1, .int b t2, .int c t3'])) (hy : s.heap.get? y = some (t3 (a, b, c) u1 u2 u3))
  (h : Q true s) : wpAny (model pw w) A (eqBool (.ref x) (.ref y)) Q E s := by
 have hne : x ≠ y := by
  rintro rfl
  rw [hx] at hy
  cases hy
 unfold eqBool
 refine wpAny_holding ?_
 refine wpAny_ite_split (fun hab => absurd (by have := eq_of_beq hab; injection this) hne) (fun _ => ?_)
 exact wpAny_bind (rc_match hu X hx hy (wpAny_truthy_bool h))
theorem told_due {h₀ : Heap} {L l b : Addr} {m : Str → Option Value} {news ledM led : List (Addr × Obj)} {its its2 : Array Value} {n n2 nn : Nat} {xs : List (Int × Int × Int)} {Q : Value → Shared → Prop} (C : Cx w h₀) (R : Room A (nn + 2)) (F : Fr h₀ L s.heap m) (N : News h₀ L s.heap news) (hl : (l, listOf its n) ∈ news) (hb : (b, listOf its2 n2) ∈ news)
  (TM : Ms ledM its.toList xs) (T : T3s led its2.toList xs) (hM : ∀ p ∈ ledM, p ∈ news) (hT : ∀ p ∈ led, p ∈ news) (h : Q (.bool true) s) : wpAny (model pw w) A (compareOp .Eq (.ref l) (.ref b)) Q E s := by
 have e1 := All2.length TM
 have e2 := All2.length T
 rw [Array.length_toList] at e1 e2
 refine list_eq_wp (Room.unitsLt R) (N.get hl) (N.get hb) (by (first | lia | omega)) (fun j v1 v2 h1 h2 E Q hq => ?_) h
 obtain ⟨x, hx, a, dx, ta, tb, tc, rfl, ha⟩ := All2.getL TM (k := j) (a := v1) (by simpa using h1)
 obtain ⟨x', hx', a', ua, ub, uc, rfl, ha'⟩ := All2.getL T (k := j) (a := v2) (by simpa using h2)
 rw [hx] at hx'; cases hx'
 exact eqB_match (Room.unitsLt (Room.in1 R)) (C.keeps F.keep).X (N.get (hM _ ha)) (N.get (hT _ ha')) hq
theorem list_same {h₀ : Heap} {L l b : Addr} {news : List (Addr × Obj)} {its : Array Value} {n n2 nn : Nat} {Q : Value → Shared → Prop} (R : Room A (nn + 1)) (N : News h₀ L s.heap news) (hl : (l, listOf its n) ∈ news) (hb : (b, listOf its n2) ∈ news)
  (h : Q (.bool true) s) : wpAny (model pw w) A (compareOp .Eq (.ref l) (.ref b)) Q E s :=
 list_eq_wp (Room.unitsLt R) (N.get hl) (N.get hb) rfl (fun j v1 v2 h1 h2 E Q hq => by
  rw [h1] at h2; cases h2
  exact EqAt.same v1 pw w E Q hq) h
end
end
local macro_rules | `(tactic| k_inst) => `(tactic| exact instAt_keeps (by walk_at "a") (Fr.keep (by walk_at "a")))
local macro_rules | `(tactic| walk_at "my itB") => `(tactic| (k_here; (with_reducible show wpAny _ _ (subscriptTail _ _ (Value.ref _) (Value.int _ _)) _ _ _); k_dflt (refine' item_base ?zF ?za ?zk ?zx ?zz ?_ ?zhs ?zhg; (case zF => walk_at "a"); (case za => walk_at "a"); (case zk => walk_at "my idx"); (case zx => walk_at "a"); (case zz => walk_at "o"); walk_at "my hs")))
local macro_rules | `(tactic| walk_at "subscriptTail Name Name ref int") => `(tactic| walk_at "my itB")
local macro_rules | `(tactic| walk_at "subscriptTail Name BinOp ref int") => `(tactic| walk_at "my itB")
local macro_rules | `(tactic| walk_at "my idx") => `(tactic| first | walk_at "a" | exact rfl | walk_at "o")
local macro_rules | `(tactic| walk_at "my lookE") => `(tactic| first | walk_at "a" | exact look_hit | (refine' look_other ?za ?zb; (case za => kernel_rfl); (case zb => walk_at "my lookE")))
section
noncomputable abbrev flmEnv (L : Addr) : Env := envOf (Str.ofString "SequenceMatcher.find_longest_match") (fScope (nth (bodyOf (nth pw.main.body 5)) 6)) L 196 (Value.ref 195)
noncomputable abbrev flmBody : List Stmt := bodyOf (nth (bodyOf (nth pw.main.body 5)) 6)
inductive InEnd (w : World) (h₀ : Heap) (L nd : Addr) (X : List (Addr × Obj)) (A0 B0 : List Str) (alo blo bhi i : Nat) (m₀ : Str → Option Value) (s : Shared) (f : Flow) (s' : Shared) : Prop
 | mk (e0 : f = .next) (h tk m ond kvs jb k bi bj zi zj zk t1 t2 t3 : _) (e1 : s' = { s with heap := h, toks := tk }) (e2 : Fr h₀ L h m) (e3 : News h₀ L h ((nd, ond) :: X)) (e4 : ond.IsDictOf (intKind pw w) kvs) (e5 : RowD A0 B0 alo blo bhi i jb kvs) (e6 : bhi ≤ jb) (e7 : DpInv A0 B0 alo blo bhi i bhi k bi bj) (e8 : zi = (bi : Int)) (e9 : zj = (bj : Int)) (e10 : zk = (k : Int)) (e11 : m (Str.ofString "besti") = some (.int zi t1)) (e12 : m (Str.ofString "bestj") = some (.int zj t2)) (e13 : m (Str.ofString "bestsize") = some (.int zk t3)) (e14 : m (Str.ofString "newj2len") = some (.ref nd)) (e15 : (∀ y ∈ [Str.ofString "a", Str.ofString "b", Str.ofString "b2j", Str.ofString "alo", Str.ofString "ahi", Str.ofString "blo", Str.ofString "bhi", Str.ofString "isbjunk", Str.ofString "nothing"], m y = m₀ y)) : InEnd w h₀ L nd X A0 B0 alo blo bhi i m₀ s f s'
inductive FinJ (w : World) (nd : Addr) (g : Addr) (dd : Addr) (I : Addr) (l : Addr) (a : Addr) (b : Addr) (jk : Addr) (bjk : Addr) (od : Obj) (oI : Obj) (m : Str → Option Value) (A0 : List Str) (B0 : List Str) (alo : Nat) (ahi : Nat) (blo : Nat) (bhi : Nat) (i : Nat) (ii : Int) (t4 : Tok) (t5 : Tok) (t6 : Tok) (c : Str) (t : Nat) (m' : Str → Option Value) (news : List (Addr × Obj)) : Prop
 | mk (ond kvs k bi bj zi zj zk t1 t2 t3 : _) (e0 : news = [(nd, ond), (g, boundOf "dict.get" dd), (I, oI), (l, listOf #[] 0), (dd, od), (bjk, boundOf "set.__contains__" jk)]) (e1 : ond.IsDictOf (intKind pw w) kvs) (e2 : kvs.length ≤ t) (e3 : RowD A0 B0 alo blo bhi i (nxt B0 c t) kvs) (e4 : DpInv A0 B0 alo blo bhi i (nxt B0 c t) k bi bj) (e5 : zi = (bi : Int)) (e6 : zj = (bj : Int)) (e7 : zk = (k : Int)) (e8 : m' (Str.ofString "besti") = some (.int zi t1)) (e9 : m' (Str.ofString "bestj") = some (.int zj t2)) (e10 : m' (Str.ofString "bestsize") = some (.int zk t3)) (e11 : m' (Str.ofString "newj2len") = some (.ref nd)) (e12 : m' (Str.ofString "j2lenget") = some (.ref g)) (e13 : m' (Str.ofString "i") = some (.int ii t4)) (e14 : m' (Str.ofString "a") = m (Str.ofString "a")) (e15 : m' (Str.ofString "b") = m (Str.ofString "b")) (e16 : m' (Str.ofString "b2j") = m (Str.ofString "b2j")) (e17 : m' (Str.ofString "alo") = m (Str.ofString "alo")) (e18 : m' (Str.ofString "ahi") = m (Str.ofString "ahi")) (e19 : m' (Str.ofString "blo") = some (.int blo t5)) (e20 : m' (Str.ofString "bhi") = some (.int bhi t6)) (e21 : m' (Str.ofString "isbjunk") = m (Str.ofString "isbjunk")) (e22 : m' (Str.ofString "nothing") = m (Str.ofString "nothing")) : FinJ w nd g dd I l a b jk bjk od oI m A0 B0 alo ahi blo bhi i ii t4 t5 t6 c t m' news
theorem fC9 {i v : Nat} {z : Int} (e : z = (i : Int)) (h : v ≤ i + 1) : z - (v : Int) + 1 = ((i + 1 - v : Nat) : Int) := by rw [e, Int.ofNat_sub h]; lia
noncomputable section
namespace cflm_in
noncomputable def zP (w : World) (d0 u0 : Nat) (fr0 : Option (List Env)) (gd0 : Option (List Code)) (s : Shared) (h₀ : Heap) (L nd g dd I l a b d jk bjk : Addr) (ond od oI o : Obj) (kvs0 : List (Int × Value)) (m : Str → Option Value) (A0 B0 : List Str) (v0 v1 : List Value) (ka kb : Nat) (P : List PlE) (alo ahi blo bhi i k bi bj : Nat) (zi zj zk ii : Int) (t1 t2 t3' t4 t5 t6 : Tok) : Prop := ∀ (C : Cx w h₀) (F : Fr h₀ L s.heap m) (N : News h₀ L s.heap [(nd, ond), (g, boundOf "dict.get" dd), (I, oI), (l, listOf #[] 0), (dd, od), (bjk, boundOf "set.__contains__" jk)]) (la : h₀.get? a = some (listOf v0.toArray ka)) (lb : h₀.get? b = some (listOf v1.toArray kb)) (sa : StrsAre v0 A0) (sb : StrsAre v1 B0) (zx : A0.length ≤ 6) (zy : B0.length ≤ 6) (hd : h₀.get? d = some o) (hD : o.IsDictOf (PySem.strKind pw w) (kvsP P)) (Ip : PlInv B0 B0.length P) (hP : ∀ p ∈ ledP P, h₀.get? p.1 = some p.2) (lo : (d == sysModules) = false) (hnd : ond.IsDictOf (intKind pw w) []) (hod : od.IsDictOf (intKind pw w) kvs0) (lo2 : (dd == sysModules) = false) (O : OldRow A0 B0 alo blo bhi i kvs0) (ne1 : @Ne Nat nd g) (ne2 : @Ne Nat nd I) (ne3 : @Ne Nat nd l) (ne4 : @Ne Nat nd dd) (ne5 : @Ne Nat nd bjk) (D : DpInv A0 B0 alo blo bhi i blo k bi bj) (hi : i < ahi) (hi2 : alo ≤ i) (ha2 : ahi ≤ A0.length) (hb : blo ≤ bhi) (hb2 : bhi ≤ B0.length) (ei : ii = (i : Int)) (e1 : zi = (bi : Int)) (e2 : zj = (bj : Int)) (e3 : zk = (k : Int)) (m1 : m (Str.ofString "besti") = some (.int zi t1)) (m2 : m (Str.ofString "bestj") = some (.int zj t2)) (m3 : m (Str.ofString "bestsize") = some (.int zk t3')) (m4 : m (Str.ofString "newj2len") = some (.ref nd)) (m5 : m (Str.ofString "j2lenget") = some (.ref g)) (m6 : m (Str.ofString "a") = some (.ref a)) (m7 : m (Str.ofString "b2j") = some (.ref d)) (m8 : m (Str.ofString "i") = some (.int ii t4)) (m9 : m (Str.ofString "blo") = some (.int blo t5)) (m10 : m (Str.ofString "bhi") = some (.int bhi t6)) (m11 : m (Str.ofString "nothing") = some (.ref l)), wpAny (model pw w) (Around.deeper { depth := d0, frames := fr0, guards := gd0, units := u0 } (flmEnv L)) (exec (nth (bodyOf (nth flmBody 7)) 2) (flmEnv L))
   (InEnd w h₀ L nd [(g, boundOf "dict.get" dd), (I, oI), (l, listOf #[] 0), (dd, od), (bjk, boundOf "set.__contains__" jk)] A0 B0 alo blo bhi i m s) (fun _ _ => False) s
noncomputable def zT (x : YY) : Prop := zP (x 1 0) (x 0 1) (x 0 2) (x 10 3) (x 11 4) (x 5 5) (x 2 6) (x 0 7) (x 0 8) (x 0 9) (x 0 10) (x 0 11) (x 0 12) (x 0 13) (x 0 14) (x 0 15) (x 0 16) (x 0 17) (x 3 18) (x 3 19) (x 3 20) (x 3 21) (x 36 22) (x 6 23) (x 13 24) (x 13 25) (x 4 26) (x 4 27) (x 0 28) (x 0 29) (x 37 30) (x 0 31) (x 0 32) (x 0 33) (x 0 34) (x 0 35) (x 0 36) (x 0 37) (x 0 38) (x 8 39) (x 8 40) (x 8 41) (x 8 42) (x 0 43) (x 0 44) (x 0 45) (x 0 46) (x 0 47) (x 0 48)
noncomputable def zC := pickY zT
@[irreducible] def w : World := zC 1 0
def d0 : Nat := zC 0 1
def u0 : Nat := zC 0 2
@[irreducible] def fr0 : Option (List Env) := zC 10 3
@[irreducible] def gd0 : Option (List Code) := zC 11 4
@[irreducible] def s : Shared := zC 5 5
@[irreducible] def h₀ : Heap := zC 2 6
def L : Addr := zC 0 7
def nd : Addr := zC 0 8
def g : Addr := zC 0 9
def dd : Addr := zC 0 10
def I : Addr := zC 0 11
def l : Addr := zC 0 12
def a : Addr := zC 0 13
def b : Addr := zC 0 14
def d : Addr := zC 0 15
def jk : Addr := zC 0 16
def bjk : Addr := zC 0 17
@[irreducible] def ond : Obj := zC 3 18
@[irreducible] def od : Obj := zC 3 19
@[irreducible] def oI : Obj := zC 3 20
@[irreducible] def o : Obj := zC 3 21
@[irreducible] def kvs0 : List (Int × Value) := zC 36 22
def m : Str → Option Value := zC 6 23
@[irreducible] def A0 : List Str := zC 13 24
@[irreducible] def B0 : List Str := zC 13 25
@[irreducible] def v0 : List Value := zC 4 26
@[irreducible] def v1 : List Value := zC 4 27
def ka : Nat := zC 0 28
def kb : Nat := zC 0 29
@[irreducible] def P : List PlE := zC 37 30
def alo : Nat := zC 0 31
def ahi : Nat := zC 0 32
def blo : Nat := zC 0 33
def bhi : Nat := zC 0 34
def i : Nat := zC 0 35
def k : Nat := zC 0 36
def bi : Nat := zC 0 37
def bj : Nat := zC 0 38
def zi : Int := zC 8 39
def zj : Int := zC 8 40
def zk : Int := zC 8 41
def ii : Int := zC 8 42
def t1 : Tok := zC 0 43
def t2 : Tok := zC 0 44
def t3' : Tok := zC 0 45
def t4 : Tok := zC 0 46
def t5 : Tok := zC 0 47
def t6 : Tok := zC 0 48
theorem zA (h : zP w d0 u0 fr0 gd0 s h₀ L nd g dd I l a b d jk bjk ond od oI o kvs0 m A0 B0 v0 v1 ka kb P alo ahi blo bhi i k bi bj zi zj zk ii t1 t2 t3' t4 t5 t6) : ∀ y, zT y := by with_unfolding_all exact pickY_spec zT h
namespace zB
noncomputable def zQ : {zz : Str → (List Value) → Nat → Addr → Obj → (Str → Option Value) → Heap → Nat → Obj → (List (Int × Value)) → Nat → Nat → Nat → Int → Int → Int → Tok → Tok → Tok → Nat → Tok → Prop // (∀ c its t I2 oI2 m' h tk ond kvs k bi bj zi zj zk t1 t2 t3 j tj, zz c its t I2 oI2 m' h tk ond kvs k bi bj zi zj zk t1 t2 t3 j tj) → zP w d0 u0 fr0 gd0 s h₀ L nd g dd I l a b d jk bjk ond od oI o kvs0 m A0 B0 v0 v1 ka kb P alo ahi blo bhi i k bi bj zi zj zk ii t1 t2 t3' t4 t5 t6} := ⟨_, by
 intro zh
 intro C F N la lb sa sb zx zy hd hD Ip hP lo hnd hod lo2 O ne1 ne2 ne3 ne4 ne5 D hi hi2 ha2 hb hb2 ei e1 e2 e3 m1 m2 m3 m4 m5 m6 m7 m8 m9 m10 m11
 have fa := strs_len sa
 obtain ⟨c, hc⟩ : ∃ c, A0[i]? = some c := ⟨A0[i]'(by lia), List.getElem?_eq_getElem (by lia)⟩
 obtain ⟨tc, hvc⟩ := strs_get sa hc
 w_on
 w_strict (
  have X := Cx.X C
  obtain ⟨mg, mb, T⟩ := Cx.T C
  show wpAny _ _ (exec (Stmt.For _ _ _ _ _) _) _ _ _
  refine wpAny_For ?_ (by intro _; rfl)
  walk_at "my steps"
  refine' meth_get_str ?za ?zb ?zc ?_
  case za => walk_at "a"
  case zb => walk_at "a"
  case zc => walk_at "a"
  walk_at "my steps"
  refine' b2j_call F N (by k_mem) hd hD Ip hP lo ?_
  intro l' its n hits hor
  walk_at "my steps"
  have hlen : its.length = (posN B0 c).length := by rw [IntsAre.length hits, List.length_map]
  have hl' : s.heap.IsList l' its.toArray := by
   rcases hor with h | ⟨rfl, rfl, rfl⟩
   ·exact ⟨_, F.keep _ _ h, rfl, _, rfl⟩
   ·exact ⟨_, News.get N (by k_mem), rfl, _, rfl⟩
  refine' iter_listL (L := L) (its := its.toArray) rfl rfl hl' (FinJ w nd g dd I l a b jk bjk od oI m A0 B0 alo ahi blo bhi i ii t4 t5 t6 c) ?F ?N ?hj ?keep ?hgo ?turn ?done
  case F => walk_at "a"
  case N => walk_at "a"
  case keep =>
   rcases hor with h | ⟨rfl, rfl, rfl⟩
   ·exact .inl ⟨_, h⟩
   ·refine .inr ⟨listOf #[] 0, News.get N (by k_mem), ?_⟩
    rintro t m' news ⟨ond, kvs, k, bi, bj, zi, zj, zk, t1, t2, t3, rfl, -⟩
    k_mem
  case hgo => exact fun _ _ _ _ _ _ q => go_name q
  case hj =>
   refine ⟨ond, [], k, bi, bj, zi, zj, zk, t1, t2, t3', rfl, hnd, Nat.le_refl _, rowD_skip (rowD_nil _ _ _ _ _ _) ?_, dp_skip (dp_zero D) (Nat.zero_le _) ?_, e1, e2, e3, m1, m2, m3, m4, m5, m8, rfl, rfl, rfl, rfl, rfl, m9, m10, rfl, rfl⟩
   ·intro j h1 h2 e
    have := nxt_gap0 (Bs := B0) (c := c) (by rw [← e]; exact hc)
    lia
   ·intro _ j h1 h2 _ h4
    refine bsz_ne (by lia) (by lia) hi2 h1 fun e => ?_
    have := nxt_gap0 (Bs := B0) (c := c) (by rw [← e]; exact hc)
    lia
  case done =>
   rintro m' news h tk ⟨ond, kvs, k, bi, bj, zi, zj, zk, t1, t2, t3, rfl, hK, _, hR, hDp, e1, e2, e3, f1, f2, f3, f4, f5, f6, f7, f8, f9, f10, f11, f12, f13, f14, f15⟩ F N
   rw [List.size_toArray, hlen, nxt_end] at hR hDp
   refine ⟨rfl, h, tk, m', ond, kvs, _, k, bi, bj, zi, zj, zk, t1, t2, t3, rfl, F, N, hK, hR, hb2, dp_vis hDp ?_, e1, e2, e3, f1, f2, f3, f4, ?_⟩
   ·intro x y; first | exact vis_all (by (first | assumption | lia)) (by (first | exact Nat.le_refl _ | assumption | lia)) | (unfold Vis; lia)
   ·rw [← m9] at f12; rw [← m10] at f13
    intro y hy
    simp only [List.mem_cons, List.not_mem_nil, or_false] at hy
    rcases hy with rfl | rfl | rfl | rfl | rfl | rfl | rfl | rfl | rfl <;> assumption
  case turn =>
   rintro t v I2 oI2 m' news h tk hv ⟨ond, kvs, k, bi, bj, zi, zj, zk, t1, t2, t3, rfl, hK, hkz, hR, hDp, e1, e2, e3, f1, f2, f3, f4, f5, f6, f7, f8, f9, f10, f11, f12, f13, f14, f15⟩ hne - F N
   clear m1 m2 m3 m4 m5 m6 m7 m8 hnd D
   obtain ⟨j, tj, rfl, hj⟩ := ints_at hits (by simpa using hv)
   obtain ⟨ej, hbj, hlt⟩ := nxt_at hj
   rw [ej] at hR hDp
   have zj6 : j < B0.length := (List.getElem?_eq_some_iff.mp hbj).1
   have hne0 := hne.1
   have ztl : t < B0.length := Nat.lt_of_lt_of_le (List.getElem?_eq_some_iff.mp hj).1 (by unfold posN; exact Nat.le_trans (List.length_filter_le _ _) (by rw [List.length_range]; exact Nat.le_refl _))
   rename_i zy1 zy2 zy3 zy4 zy5
   clear ej hl' hlen hor hits n l' T mb mg X hvc tc fa m11 zy5 zy4 zy3 hb lo hP Ip hD hd zx sb sa lb la zy2 zy1
   revert C zy hod lo2 O ne1 ne2 ne3 ne4 ne5 hi hi2 ha2 hb2 ei m9 m10 hc hK hkz e1 e2 e3 f1 f2 f3 f4 f5 f6 f7 f8 f9 f10 f11 f12 f13 f14 f15 hne F N hDp hR hj hv hbj hlt zj6 hne0 ztl
   revert c its t I2 oI2 m' h tk ond kvs k bi bj zi zj zk t1 t2 t3 j tj
   exact @zh)
 ⟩
noncomputable def zT (x : YY) : Prop := zQ.1 (x 12 0) (x 4 1) (x 0 2) (x 0 3) (x 3 4) (x 6 5) (x 2 6) (x 0 7) (x 3 8) (x 36 9) (x 0 10) (x 0 11) (x 0 12) (x 8 13) (x 8 14) (x 8 15) (x 0 16) (x 0 17) (x 0 18) (x 0 19) (x 0 20)
noncomputable def zC := pickY zT
def c : Str := zC 12 0
@[irreducible] def its : List Value := zC 4 1
def t : Nat := zC 0 2
def I2 : Addr := zC 0 3
@[irreducible] def oI2 : Obj := zC 3 4
def m' : Str → Option Value := zC 6 5
@[irreducible] def h : Heap := zC 2 6
def tk : Nat := zC 0 7
@[irreducible] def ond : Obj := zC 3 8
@[irreducible] def kvs : List (Int × Value) := zC 36 9
def k : Nat := zC 0 10
def bi : Nat := zC 0 11
def bj : Nat := zC 0 12
def zi : Int := zC 8 13
def zj : Int := zC 8 14
def zk : Int := zC 8 15
def t1 : Tok := zC 0 16
def t2 : Tok := zC 0 17
def t3 : Tok := zC 0 18
def j : Nat := zC 0 19
def tj : Tok := zC 0 20
theorem zA (h : zQ.1 c its t I2 oI2 m' h tk ond kvs k bi bj zi zj zk t1 t2 t3 j tj) : ∀ y, zT y := by with_unfolding_all exact pickY_spec zT h
theorem zK : zQ.1 c its t I2 oI2 m' h tk ond kvs k bi bj zi zj zk t1 t2 t3 j tj := by
 intro C zy hod lo2 O ne1 ne2 ne3 ne4 ne5 hi hi2 ha2 hb2 ei m9 m10 hc hK hkz e1 e2 e3 f1 f2 f3 f4 f5 f6 f7 f8 f9 f10 f11 f12 f13 f14 f15 hne F N hDp hR hj hv hbj hlt zj6 hne0 ztl
 w_on
 w_strict (
  have X := Cx.X C
  obtain ⟨mg, mb, T⟩ := Cx.T C
  walk_at "my steps"
  ·refine' fcont (by walk_at "a") (by walk_at "a") ?wj ?ws hne
   case ws => walk_at "my sub"
   case wj =>
    refine' ⟨ond, kvs, k, bi, bj, zi, zj, zk, t1, t2, t3, rfl, hK, by lia, rowD_skip hR ?_, dp_skip hDp (by lia) ?_, e1, e2, e3, ?l1, ?l2, ?l3, ?l4, ?l5, ?l6, ?l7, ?l8, ?l9, ?l10, ?l11, ?l12, ?l13, ?l14, ?l15⟩
    case l1 => walk_at "my lookE"
    case l2 => walk_at "my lookE"
    case l3 => walk_at "my lookE"
    case l4 => walk_at "my lookE"
    case l5 => walk_at "my lookE"
    case l6 => walk_at "my lookE"
    case l7 => walk_at "my lookE"
    case l8 => walk_at "my lookE"
    case l9 => walk_at "my lookE"
    case l10 => walk_at "my lookE"
    case l11 => walk_at "my lookE"
    case l12 => walk_at "my lookE"
    case l13 => walk_at "my lookE"
    case l14 => walk_at "my lookE"
    case l15 => walk_at "my lookE"
    ·intro j' h1 h2 e
     have := nxt_gap1 (j := j') hj (by rw [← e]; exact hc)
     have q0 := Nat.lt_of_lt_of_le (Int.ofNat_lt.mp (by walk_at "a" : (j : Int) < (blo : Int))) h1
     exact ⟨fun q => absurd q (Nat.lt_asymm q0), fun q => absurd q (Nat.not_lt.mpr (this q0))⟩
    ·intro _ j' h1 h2 h3 h4
     refine bsz_ne (by lia) (by lia) hi2 h1 fun e => ?_
     have := nxt_gap1 (j := j') hj (by rw [← e]; exact hc)
     lia
  ·refine ⟨rfl, _, _, _, ond, kvs, _, k, bi, bj, zi, zj, zk, t1, t2, t3, rfl, by walk_at "a", news_sub (by walk_at "a") (by walk_at "my sub"), hK, hR, by lia, dp_vis hDp ?_, e1, e2, e3, ?l1, ?l2, ?l3, ?l4, ?_⟩
   case l1 => walk_at "my look"
   case l2 => walk_at "my look"
   case l3 => walk_at "my look"
   case l4 => walk_at "my look"
   ·intro x y; first | exact vis_all (by (first | assumption | lia)) (by (first | exact Nat.le_refl _ | assumption | lia)) | (unfold Vis; lia)
   ·rw [← m9] at f12; rw [← m10] at f13
    intro y hy
    simp only [List.mem_cons, List.not_mem_nil, or_false] at hy
    rcases hy with rfl | rfl | rfl | rfl | rfl | rfl | rfl | rfl | rfl <;> walk_at "my lookE"
  ·refine' callWith_own ?zN ?zm ?_
   walk_at "my nm"
   walk_at "my steps"
   ·exact News.get (by walk_at "a") (by k_mem)
   refine' old_call ?zN ?zg ?zm ?za ?zb ?zc ?zd ?ze ?zf ?_
   case zN => walk_at "a"
   case zg => k_mem
   case zm => k_mem
   case za => walk_at "a"
   case zb => walk_at "a"
   case zc => walk_at "a"
   case zd => exact rfl
   case ze => walk_at "o"
   case zf => walk_at "o"
   intro _
   walk_at "my steps"
   have hab : A0[i]? = B0[j]? := by rw [hc, hbj]
   have ev := put_val (A := A0) (B := B0) (alo := alo) (blo := blo) (i := i) (j := j) (by lia) zj6 hi2 (by lia) hab
   have evb := bsz_bound (A := A0) (B := B0) (alo := alo) (blo := blo) (i := i) (j := j) (by lia) zj6 hi2 (by lia)
   have ev0 : 0 < bsz A0 B0 alo blo i j := by lia
   rename Fr _ _ _ _ => F
   rename News _ _ _ _ => N
   rw [ev] at F ⊢
   refine' set_in F N (by k_mem) [(I2, oI2), (g, boundOf "dict.get" dd), (I, oI), (l, listOf #[] 0), (dd, od), (bjk, boundOf "set.__contains__" jk)] ?hr hK (by lia) ?_
   case hr =>
    intro p hp
    refine ⟨by rcases List.mem_cons.mp hp with rfl | hp; exact .head _; exact .tail _ (.tail _ hp), ?_⟩
    revert p
    k_all
   clear F N
   intro h1 ond1 F N hK1
   have hR1 := rowD_put hR (by lia) (by lia) hab (tk + 1 + 1 + 1 + 1 + 1)
   obtain ⟨v, hv⟩ : ∃ v, v = bsz A0 B0 alo blo i j := ⟨_, rfl⟩
   rw [← hv] at F hK1 hR1 evb ev0
   obtain ⟨dp1, dp2⟩ := dp_hit hDp hi2 (by lia) (by lia) hv ev0 (Nat.le_trans (Nat.le_add_right _ _) evb.1) (Nat.le_trans (Nat.le_add_right _ _) evb.2)
   clear ev
   walk_at "my steps"
   ·refine' fnext (news' := [(nd, ond1), (g, boundOf "dict.get" dd), (I, oI), (l, listOf #[] 0), (dd, od), (bjk, boundOf "set.__contains__" jk)]) (by walk_at "a") (by walk_at "a") ?wj ?ws ?wn
    case wn => exact hne
    case ws => walk_at "my sub"
    case wj =>
     refine' ⟨ond1, _, v, i + 1 - v, j + 1 - v, _, _, _, _, _, _, rfl, hK1, Nat.le_trans (stored_length_le _ _ _) (by lia), rowD_skip hR1 ?_, dp_skip (dp1 (by lia)) (by lia) ?_, ?i1, ?i2, ?i3, ?l1, ?l2, ?l3, ?l4, ?l5, ?l6, ?l7, ?l8, ?l9, ?l10, ?l11, ?l12, ?l13, ?l14, ?l15⟩
     case l1 => walk_at "my lookE"
     case l2 => walk_at "my lookE"
     case l3 => walk_at "my lookE"
     case l4 => walk_at "my lookE"
     case l5 => walk_at "my lookE"
     case l6 => walk_at "my lookE"
     case l7 => walk_at "my lookE"
     case l8 => walk_at "my lookE"
     case l9 => walk_at "my lookE"
     case l10 => walk_at "my lookE"
     case l11 => walk_at "my lookE"
     case l12 => walk_at "my lookE"
     case l13 => walk_at "my lookE"
     case l14 => walk_at "my lookE"
     case l15 => walk_at "my lookE"
     case i1 => exact fC9 ei (Nat.le_trans (Nat.le_add_right _ _) evb.1)
     case i2 => exact fC9 rfl (Nat.le_trans (Nat.le_add_right _ _) evb.2)
     case i3 => lia
     ·intro j' h1 h2 e
      have := fun z => nxt_gap1 (j := j') hj (by rw [← e]; exact hc) z
      exact ⟨fun q => Nat.lt_of_le_of_lt (Nat.le_of_lt_succ q) hlt, fun q => Nat.lt_succ_of_le (Nat.le_of_not_lt fun z => Nat.not_lt.mpr (this z) q)⟩
     ·intro _ j' h1 h2 h3 h4
      refine bsz_ne (by lia) (by lia) hi2 h1 fun e => ?_
      have := nxt_gap1 (j := j') hj (by rw [← e]; exact hc)
      lia
   ·refine' fnext (news' := [(nd, ond1), (g, boundOf "dict.get" dd), (I, oI), (l, listOf #[] 0), (dd, od), (bjk, boundOf "set.__contains__" jk)]) (by walk_at "a") (by walk_at "a") ?wj ?ws ?wn
    case wn => exact hne
    case ws => walk_at "my sub"
    case wj =>
     refine' ⟨ond1, _, k, bi, bj, _, _, _, _, _, _, rfl, hK1, Nat.le_trans (stored_length_le _ _ _) (by lia), rowD_skip hR1 ?_, dp_skip (dp2 (by lia)) (by lia) ?_, ?i1, ?i2, ?i3, ?l1, ?l2, ?l3, ?l4, ?l5, ?l6, ?l7, ?l8, ?l9, ?l10, ?l11, ?l12, ?l13, ?l14, ?l15⟩
     case l1 => walk_at "my lookE"
     case l2 => walk_at "my lookE"
     case l3 => walk_at "my lookE"
     case l4 => walk_at "my lookE"
     case l5 => walk_at "my lookE"
     case l6 => walk_at "my lookE"
     case l7 => walk_at "my lookE"
     case l8 => walk_at "my lookE"
     case l9 => walk_at "my lookE"
     case l10 => walk_at "my lookE"
     case l11 => walk_at "my lookE"
     case l12 => walk_at "my lookE"
     case l13 => walk_at "my lookE"
     case l14 => walk_at "my lookE"
     case l15 => walk_at "my lookE"
     case i1 => lia
     case i2 => lia
     case i3 => lia
     ·intro j' h1 h2 e
      have := fun z => nxt_gap1 (j := j') hj (by rw [← e]; exact hc) z
      exact ⟨fun q => Nat.lt_of_le_of_lt (Nat.le_of_lt_succ q) hlt, fun q => Nat.lt_succ_of_le (Nat.le_of_not_lt fun z => Nat.not_lt.mpr (this z) q)⟩
     ·intro _ j' h1 h2 h3 h4
      refine bsz_ne (by lia) (by lia) hi2 h1 fun e => ?_
      have := nxt_gap1 (j := j') hj (by rw [← e]; exact hc)
      lia)
end zB
theorem zK : zP w d0 u0 fr0 gd0 s h₀ L nd g dd I l a b d jk bjk ond od oI o kvs0 m A0 B0 v0 v1 ka kb P alo ahi blo bhi i k bi bj zi zj zk ii t1 t2 t3' t4 t5 t6 := zB.zQ.2 fun c its t I2 oI2 m' h tk ond kvs k bi bj zi zj zk t1 t2 t3 j tj => zB.zA zB.zK (putY [⟨12, c⟩, ⟨4, its⟩, ⟨0, t⟩, ⟨0, I2⟩, ⟨3, oI2⟩, ⟨6, m'⟩, ⟨2, h⟩, ⟨0, tk⟩, ⟨3, ond⟩, ⟨36, kvs⟩, ⟨0, k⟩, ⟨0, bi⟩, ⟨0, bj⟩, ⟨8, zi⟩, ⟨8, zj⟩, ⟨8, zk⟩, ⟨0, t1⟩, ⟨0, t2⟩, ⟨0, t3⟩, ⟨0, j⟩, ⟨0, tj⟩])
end cflm_in
end
theorem flm_in {w : World} {d0 u0 : Nat} {fr0 : Option (List Env)} {gd0 : Option (List Code)} {s : Shared} {h₀ : Heap} {L nd g dd I l a b d jk bjk : Addr} {ond od oI o : Obj} {kvs0 : List (Int × Value)} {m : Str → Option Value} {A0 B0 : List Str} {v0 v1 : List Value} {ka kb : Nat} {P : List PlE} {alo ahi blo bhi i k bi bj : Nat} {zi zj zk ii : Int} {t1 t2 t3' t4 t5 t6 : Tok} : cflm_in.zP w d0 u0 fr0 gd0 s h₀ L nd g dd I l a b d jk bjk ond od oI o kvs0 m A0 B0 v0 v1 ka kb P alo ahi blo bhi i k bi bj zi zj zk ii t1 t2 t3' t4 t5 t6 := cflm_in.zA cflm_in.zK (putY (⟨1, w⟩ :: ⟨0, d0⟩ :: ⟨0, u0⟩ :: ⟨10, fr0⟩ :: ⟨11, gd0⟩ :: ⟨5, s⟩ :: ⟨2, h₀⟩ :: ⟨0, L⟩ :: ⟨0, nd⟩ :: ⟨0, g⟩ :: ⟨0, dd⟩ :: ⟨0, I⟩ :: ⟨0, l⟩ :: ⟨0, a⟩ :: ⟨0, b⟩ :: ⟨0, d⟩ :: ⟨0, jk⟩ :: ⟨0, bjk⟩ :: ⟨3, ond⟩ :: ⟨3, od⟩ :: ⟨3, oI⟩ :: ⟨3, o⟩ :: ⟨36, kvs0⟩ :: ⟨6, m⟩ :: ⟨13, A0⟩ :: ⟨13, B0⟩ :: ⟨4, v0⟩ :: ⟨4, v1⟩ :: ⟨0, ka⟩ :: ⟨0, kb⟩ :: ⟨37, P⟩ :: ⟨0, alo⟩ :: ⟨0, ahi⟩ :: ⟨0, blo⟩ :: ⟨0, bhi⟩ :: ⟨0, i⟩ :: ⟨0, k⟩ :: ⟨0, bi⟩ :: ⟨0, bj⟩ :: ⟨8, zi⟩ :: ⟨8, zj⟩ :: ⟨8, zk⟩ :: ⟨8, ii⟩ :: ⟨0, t1⟩ :: ⟨0, t2⟩ :: ⟨0, t3'⟩ :: ⟨0, t4⟩ :: ⟨0, t5⟩ :: ⟨0, t6⟩ :: []))
end
section
inductive FlmEnd (h₀ : Heap) (L bjk jk : Addr) (A0 B0 : List Str) (alo ahi blo bhi : Nat) (m₀ : Str → Option Value) (s : Shared) (f : Flow) (s' : Shared) : Prop
 | mk (e0 : f = .next) (h tk m k bi bj zi zj zk t1 t2 t3 : _) (e1 : s' = { s with heap := h, toks := tk }) (e2 : Fr h₀ L h m) (e3 : News h₀ L h [(bjk, boundOf "set.__contains__" jk)]) (e4 : IsBest A0 B0 alo ahi blo bhi k bi bj) (e5 : zi = (bi : Int)) (e6 : zj = (bj : Int)) (e7 : zk = (k : Int)) (e8 : m (Str.ofString "besti") = some (.int zi t1)) (e9 : m (Str.ofString "bestj") = some (.int zj t2)) (e10 : m (Str.ofString "bestsize") = some (.int zk t3)) (e11 : (∀ y ∈ [Str.ofString "a", Str.ofString "b", Str.ofString "alo", Str.ofString "ahi", Str.ofString "blo", Str.ofString "bhi", Str.ofString "isbjunk"], m y = m₀ y)) : FlmEnd h₀ L bjk jk A0 B0 alo ahi blo bhi m₀ s f s'
inductive FoJ (w : World) (l : Addr) (a : Addr) (d : Addr) (jk : Addr) (bjk : Addr) (m : Str → Option Value) (A0 : List Str) (B0 : List Str) (alo : Nat) (ahi : Nat) (blo : Nat) (bhi : Nat) (t4 : Tok) (t5 : Tok) (t6 : Tok) (t7 : Tok) (t : Nat) (m' : Str → Option Value) (news : List (Addr × Obj)) : Prop
 | mk (dd od kvs k bi bj zi zj zk t1 t2 t3 : _) (e0 : news = [(l, listOf #[] 0), (dd, od), (bjk, boundOf "set.__contains__" jk)]) (e1 : od.IsDictOf (intKind pw w) kvs) (e2 : (dd == sysModules) = false) (e3 : OldRow A0 B0 alo blo bhi (alo + t) kvs) (e4 : DpInv A0 B0 alo blo bhi (alo + t) blo k bi bj) (e5 : zi = (bi : Int)) (e6 : zj = (bj : Int)) (e7 : zk = (k : Int)) (e8 : m' (Str.ofString "besti") = some (.int zi t1)) (e9 : m' (Str.ofString "bestj") = some (.int zj t2)) (e10 : m' (Str.ofString "bestsize") = some (.int zk t3)) (e11 : m' (Str.ofString "j2len") = some (.ref dd)) (e12 : m' (Str.ofString "a") = some (.ref a)) (e13 : m' (Str.ofString "b") = m (Str.ofString "b")) (e14 : m' (Str.ofString "b2j") = some (.ref d)) (e15 : m' (Str.ofString "alo") = some (.int alo t4)) (e16 : m' (Str.ofString "ahi") = some (.int ahi t7)) (e17 : m' (Str.ofString "blo") = some (.int blo t5)) (e18 : m' (Str.ofString "bhi") = some (.int bhi t6)) (e19 : m' (Str.ofString "isbjunk") = m (Str.ofString "isbjunk")) (e20 : m' (Str.ofString "nothing") = some (.ref l)) : FoJ w l a d jk bjk m A0 B0 alo ahi blo bhi t4 t5 t6 t7 t m' news
noncomputable section
namespace cflm_for
noncomputable def zP (w : World) (d0 u0 : Nat) (fr0 : Option (List Env)) (gd0 : Option (List Code)) (s : Shared) (h₀ : Heap) (L dd l a b d jk bjk : Addr) (od o : Obj) (m : Str → Option Value) (A0 B0 : List Str) (v0 v1 : List Value) (ka kb : Nat) (P : List PlE) (alo ahi blo bhi : Nat) (zi zj zk : Int) (t1 t2 t3' t4 t5 t6 t7 : Tok) : Prop := ∀ (C : Cx w h₀) (F : Fr h₀ L s.heap m) (N : News h₀ L s.heap [(l, listOf #[] 0), (dd, od), (bjk, boundOf "set.__contains__" jk)]) (la : h₀.get? a = some (listOf v0.toArray ka)) (lb : h₀.get? b = some (listOf v1.toArray kb)) (sa : StrsAre v0 A0) (sb : StrsAre v1 B0) (zx : A0.length ≤ 6) (zy : B0.length ≤ 6) (hd : h₀.get? d = some o) (hD : o.IsDictOf (PySem.strKind pw w) (kvsP P)) (Ip : PlInv B0 B0.length P) (hP : ∀ p ∈ ledP P, h₀.get? p.1 = some p.2) (lo : (d == sysModules) = false) (hod : od.IsDictOf (intKind pw w) []) (lo2 : (dd == sysModules) = false) (ha : alo ≤ ahi) (ha2 : ahi ≤ A0.length) (hb : blo ≤ bhi) (hb2 : bhi ≤ B0.length) (e1 : zi = (alo : Int)) (e2 : zj = (blo : Int)) (e3 : zk = 0) (m1 : m (Str.ofString "besti") = some (.int zi t1)) (m2 : m (Str.ofString "bestj") = some (.int zj t2)) (m3 : m (Str.ofString "bestsize") = some (.int zk t3')) (m4 : m (Str.ofString "j2len") = some (.ref dd)) (m6 : m (Str.ofString "a") = some (.ref a)) (m7 : m (Str.ofString "b2j") = some (.ref d)) (m8 : m (Str.ofString "alo") = some (.int alo t4)) (m9 : m (Str.ofString "ahi") = some (.int ahi t7)) (m10 : m (Str.ofString "blo") = some (.int blo t5)) (m11 : m (Str.ofString "bhi") = some (.int bhi t6)) (m12 : m (Str.ofString "nothing") = some (.ref l)), wpAny (model pw w) (Around.deeper { depth := d0, frames := fr0, guards := gd0, units := u0 } (flmEnv L)) (exec (nth flmBody 7) (flmEnv L))
   (FlmEnd h₀ L bjk jk A0 B0 alo ahi blo bhi m s) (fun _ _ => False) s
noncomputable def zT (x : YY) : Prop := zP (x 1 0) (x 0 1) (x 0 2) (x 10 3) (x 11 4) (x 5 5) (x 2 6) (x 0 7) (x 0 8) (x 0 9) (x 0 10) (x 0 11) (x 0 12) (x 0 13) (x 0 14) (x 3 15) (x 3 16) (x 6 17) (x 13 18) (x 13 19) (x 4 20) (x 4 21) (x 0 22) (x 0 23) (x 37 24) (x 0 25) (x 0 26) (x 0 27) (x 0 28) (x 8 29) (x 8 30) (x 8 31) (x 0 32) (x 0 33) (x 0 34) (x 0 35) (x 0 36) (x 0 37) (x 0 38)
noncomputable def zC := pickY zT
@[irreducible] def w : World := zC 1 0
def d0 : Nat := zC 0 1
def u0 : Nat := zC 0 2
@[irreducible] def fr0 : Option (List Env) := zC 10 3
@[irreducible] def gd0 : Option (List Code) := zC 11 4
@[irreducible] def s : Shared := zC 5 5
@[irreducible] def h₀ : Heap := zC 2 6
def L : Addr := zC 0 7
def dd : Addr := zC 0 8
def l : Addr := zC 0 9
def a : Addr := zC 0 10
def b : Addr := zC 0 11
def d : Addr := zC 0 12
def jk : Addr := zC 0 13
def bjk : Addr := zC 0 14
@[irreducible] def od : Obj := zC 3 15
@[irreducible] def o : Obj := zC 3 16
def m : Str → Option Value := zC 6 17
@[irreducible] def A0 : List Str := zC 13 18
@[irreducible] def B0 : List Str := zC 13 19
@[irreducible] def v0 : List Value := zC 4 20
@[irreducible] def v1 : List Value := zC 4 21
def ka : Nat := zC 0 22
def kb : Nat := zC 0 23
@[irreducible] def P : List PlE := zC 37 24
def alo : Nat := zC 0 25
def ahi : Nat := zC 0 26
def blo : Nat := zC 0 27
def bhi : Nat := zC 0 28
def zi : Int := zC 8 29
def zj : Int := zC 8 30
def zk : Int := zC 8 31
def t1 : Tok := zC 0 32
def t2 : Tok := zC 0 33
def t3' : Tok := zC 0 34
def t4 : Tok := zC 0 35
def t5 : Tok := zC 0 36
def t6 : Tok := zC 0 37
def t7 : Tok := zC 0 38
theorem zA (h : zP w d0 u0 fr0 gd0 s h₀ L dd l a b d jk bjk od o m A0 B0 v0 v1 ka kb P alo ahi blo bhi zi zj zk t1 t2 t3' t4 t5 t6 t7) : ∀ y, zT y := by with_unfolding_all exact pickY_spec zT h
theorem zK : zP w d0 u0 fr0 gd0 s h₀ L dd l a b d jk bjk od o m A0 B0 v0 v1 ka kb P alo ahi blo bhi zi zj zk t1 t2 t3' t4 t5 t6 t7 := by
 intro C F N la lb sa sb zx zy hd hD Ip hP lo hod lo2 ha ha2 hb hb2 e1 e2 e3 m1 m2 m3 m4 m6 m7 m8 m9 m10 m11 m12
 w_on
 w_strict (
  have X := Cx.X C
  obtain ⟨mg, mb, T⟩ := Cx.T C
  show wpAny _ _ (exec (Stmt.For _ _ _ _ _) _) _ _ _
  refine wpAny_For ?_ (by intro _; rfl)
  walk_at "my steps"
  refine' iter_range (L := L) (n := ahi - alo) (news₀ := [(l, listOf #[] 0), (dd, od), (bjk, boundOf "set.__contains__" jk)]) rfl rfl ?hr ?hsm ?hn (FoJ w l a d jk bjk m A0 B0 alo ahi blo bhi t4 t5 t6 t7) ?F ?N ?hj ?hgo ?turn ?done
  case hr => walk_at "a"
  case hsm => exact small_one (by lia) (by lia) (by lia) (by lia)
  case hn => rw [rangeSize_nat]; lia
  case F => walk_at "a"
  case N => exact news_sub (by walk_at "a") (by walk_at "my sub")
  case hgo => exact fun _ _ _ _ q => go_name q
  case hj =>
   refine' ⟨dd, od, [], 0, alo, blo, zi, zj, zk, t1, t2, t3', rfl, hod, lo2, old_nil _ _ _ _ _, dp_start _ _ _ _ _, e1, e2, e3, m1, m2, m3, m4, m6, rfl, m7, m8, m9, m10, m11, rfl, m12⟩
  case done =>
   rintro m' news h tk ⟨dd, od, kvs, k, bi, bj, zi, zj, zk, t1, t2, t3, rfl, hK, _, _, hDp, e1, e2, e3, f1, f2, f3, f4, f5, f6, f7, f8, f9, f10, f11, f12, f13⟩ F N
   refine' ⟨rfl, h, tk, m', k, bi, bj, zi, zj, zk, t1, t2, t3, rfl, F, news_sub N (by walk_at "my sub"), ?_, e1, e2, e3, f1, f2, f3, ?_⟩
   ·rw [show alo + (ahi - alo) = ahi by lia] at hDp
    exact dp_end ha ha2 hb hb2 hDp
   ·intro y hy
    simp only [List.mem_cons, List.not_mem_nil, or_false] at hy
    rcases hy with rfl | rfl | rfl | rfl | rfl | rfl | rfl
    ·rw [f5, m6]
    ·exact f6
    ·rw [f8, m8]
    ·rw [f9, m9]
    ·rw [f10, m10]
    ·rw [f11, m11]
    ·exact f12
  case turn =>
   clear m1 m2 m3 m4 m6 m7 hod lo2
   rintro t ti I oI m' news h tk ht ⟨dd, od, kvs, k, bi, bj, zi, zj, zk, t1, t2, t3, rfl, hK, lo2, hO, hDp, e1, e2, e3, f1, f2, f3, f4, f5, f6, f7, f8, f9, f10, f11, f12, f13⟩ hne - F N
   walk_at "my steps"
   rename Fr _ _ _ _ => F
   rename News _ _ _ _ => N
   refine' bound_getD F N (by k_mem) hK ?_
   clear F N
   intro g h1 tk1 F1 N1 l1
   k_lt l1
   walk_at "my steps"
   rename Fr _ _ _ _ => F
   rename News _ _ _ _ => N
   rename (_ == sysModules) = false => lod
   rename Obj.IsDictOf (intKind _ _) _ [] => hnd
   rename _ < _ ∧ _ => l2
   obtain ⟨nd, rfl⟩ := name_head N
   refine' cut_exec (flm_in (i := alo + t) (ahi := ahi) C F N la lb sa sb zx zy hd hD Ip hP lo hnd hK lo2 hO ?n1 ?n2 ?n3 ?n4 ?n5 hDp ?hi ?hi2 ha2 hb hb2 ?ei e1 e2 e3 ?q1 ?q2 ?q3 ?q4 ?q5 ?q6 ?q7 ?q8 ?q9 ?q10 ?q11) ?_
   case n1 => exact Ne.symm (Nat.ne_of_lt l2.1)
   case n2 => exact Ne.symm (Nat.ne_of_lt l2.2.1)
   case n3 => exact Ne.symm (Nat.ne_of_lt l2.2.2.1)
   case n4 => exact Ne.symm (Nat.ne_of_lt l2.2.2.2.1)
   case n5 => exact Ne.symm (Nat.ne_of_lt l2.2.2.2.2)
   case hi => lia
   case hi2 => lia
   case q1 => walk_at "my look"
   case q2 => walk_at "my look"
   case q3 => walk_at "my look"
   case q4 => walk_at "my look"
   case q5 => walk_at "my look"
   case q6 => walk_at "my look"
   case q7 => walk_at "my look"
   case q8 => walk_at "my look"
   case q9 => walk_at "my look"
   case q10 => walk_at "my look"
   case q11 => walk_at "my look"
   case ei => lia
   clear F N hnd e1 e2 e3 f1 f2 f3 f4 hDp
   rintro f s' ⟨rfl, h', tk', m2, ond, kvs', jb, k', bi', bj', zi', zj', zk', u1, u2, u3, rfl, F, N, hK', hR, hjb, hDp, e1, e2, e3, f1, f2, f3, f4, hE⟩
   have g5 : m2 (Str.ofString "a") = some (.ref a) := (hE _ (by simp)).trans (by walk_at "my look")
   have g6 : m2 (Str.ofString "b") = m (Str.ofString "b") := (hE _ (by simp)).trans (by walk_at "my lookE")
   have g7 : m2 (Str.ofString "b2j") = some (.ref d) := (hE _ (by simp)).trans (by walk_at "my look")
   have g8 : m2 (Str.ofString "alo") = some (.int alo t4) := (hE _ (by simp)).trans (by walk_at "my look")
   have g9 : m2 (Str.ofString "ahi") = some (.int ahi t7) := (hE _ (by simp)).trans (by walk_at "my look")
   have g10 : m2 (Str.ofString "blo") = some (.int blo t5) := (hE _ (by simp)).trans (by walk_at "my look")
   have g11 : m2 (Str.ofString "bhi") = some (.int bhi t6) := (hE _ (by simp)).trans (by walk_at "my look")
   have g12 : m2 (Str.ofString "isbjunk") = m (Str.ofString "isbjunk") := (hE _ (by simp)).trans (by walk_at "my lookE")
   have g13 : m2 (Str.ofString "nothing") = some (.ref l) := (hE _ (by simp)).trans (by walk_at "my look")
   clear hE f5 f6 f7 f8 f9 f10 f11 f12 f13 m8 m9 m10 m11 m12
   walk_at "my steps"
   refine' fnext (news' := [(l, listOf #[] 0), (nd, ond), (bjk, boundOf "set.__contains__" jk)]) (by walk_at "a") (by walk_at "a") ?wj ?ws ?wn
   case ws => walk_at "my sub"
   case wn => exact ⟨hne.1, Ne.symm (Nat.ne_of_lt l2.2.1), hne.2.2⟩
   case wj =>
    have hO' := rowD_old (i := alo + t) hR hjb hb2 (by lia) (by lia)
    have hD' := dp_row (i := alo + t) hDp
    rw [Nat.add_assoc] at hO' hD'
    refine' ⟨nd, ond, kvs', k', bi', bj', zi', zj', zk', u1, u2, u3, rfl, hK', lod, hO', hD', e1, e2, e3, ?l1, ?l2, ?l3, ?l4, ?l5, ?l6, ?l7, ?l8, ?l9, ?l10, ?l11, ?l12, ?l13⟩
    case l1 => walk_at "my lookE"
    case l2 => walk_at "my lookE"
    case l3 => walk_at "my lookE"
    case l4 => walk_at "my lookE"
    case l5 => walk_at "my lookE"
    case l6 => walk_at "my lookE"
    case l7 => walk_at "my lookE"
    case l8 => walk_at "my lookE"
    case l9 => walk_at "my lookE"
    case l10 => walk_at "my lookE"
    case l11 => walk_at "my lookE"
    case l12 => walk_at "my lookE"
    case l13 => walk_at "my lookE")
end cflm_for
end
theorem flm_for {w : World} {d0 u0 : Nat} {fr0 : Option (List Env)} {gd0 : Option (List Code)} {s : Shared} {h₀ : Heap} {L dd l a b d jk bjk : Addr} {od o : Obj} {m : Str → Option Value} {A0 B0 : List Str} {v0 v1 : List Value} {ka kb : Nat} {P : List PlE} {alo ahi blo bhi : Nat} {zi zj zk : Int} {t1 t2 t3' t4 t5 t6 t7 : Tok} : cflm_for.zP w d0 u0 fr0 gd0 s h₀ L dd l a b d jk bjk od o m A0 B0 v0 v1 ka kb P alo ahi blo bhi zi zj zk t1 t2 t3' t4 t5 t6 t7 := cflm_for.zA cflm_for.zK (putY (⟨1, w⟩ :: ⟨0, d0⟩ :: ⟨0, u0⟩ :: ⟨10, fr0⟩ :: ⟨11, gd0⟩ :: ⟨5, s⟩ :: ⟨2, h₀⟩ :: ⟨0, L⟩ :: ⟨0, dd⟩ :: ⟨0, l⟩ :: ⟨0, a⟩ :: ⟨0, b⟩ :: ⟨0, d⟩ :: ⟨0, jk⟩ :: ⟨0, bjk⟩ :: ⟨3, od⟩ :: ⟨3, o⟩ :: ⟨6, m⟩ :: ⟨13, A0⟩ :: ⟨13, B0⟩ :: ⟨4, v0⟩ :: ⟨4, v1⟩ :: ⟨0, ka⟩ :: ⟨0, kb⟩ :: ⟨37, P⟩ :: ⟨0, alo⟩ :: ⟨0, ahi⟩ :: ⟨0, blo⟩ :: ⟨0, bhi⟩ :: ⟨8, zi⟩ :: ⟨8, zj⟩ :: ⟨8, zk⟩ :: ⟨0, t1⟩ :: ⟨0, t2⟩ :: ⟨0, t3'⟩ :: ⟨0, t4⟩ :: ⟨0, t5⟩ :: ⟨0, t6⟩ :: ⟨0, t7⟩ :: []))
end
section
theorem none_of_keeps {a b : Heap} {x : Addr} (k : Keeps a b) (n : b.get? x = none) : a.get? x = none := by
 cases e : a.get? x with
 | none => rfl
 | some o => rw [k _ _ e] at n; cases n
theorem best_left {A B : List Str} {alo ahi blo bhi k i j : Nat} (h : IsBest A B alo ahi blo bhi k i j) (h1 : alo < i) (h2 : blo < j) : ¬ A[i - 1]? = B[j - 1]? := by
 intro e
 obtain ⟨a1, a2, a3, a4, a5, a6, a7⟩ := h
 have hk : 0 < k := by
  rcases Nat.eq_zero_or_pos k with q | q
  ·have := a6 q; lia
  ·exact q
 have hc : (A.drop (i - 1)).take (1 + k) = (B.drop (j - 1)).take (1 + k) := by
  refine blk_cat (i := i - 1) (j := j - 1) (k := 1) (l := k) ?_ ?_
  ·rw [blk_iff]; intro t ht; rw [show t = 0 by lia]; exact e
  ·rw [show i - 1 + 1 = i by lia, show j - 1 + 1 = j by lia]; exact a5
 have := a7 (1 + k) (i - 1) (j - 1) (by lia) (by lia) (by lia) (by lia) (by lia) hc
 rw [lt3_not] at this; simp only at this; lia
theorem best_right {A B : List Str} {alo ahi blo bhi k i j : Nat} (h : IsBest A B alo ahi blo bhi k i j) (h1 : i + k < ahi) (h2 : j + k < bhi) : ¬ A[i + k]? = B[j + k]? := by
 intro e
 obtain ⟨a1, a2, a3, a4, a5, a6, a7⟩ := h
 have hc : (A.drop i).take (k + 1) = (B.drop j).take (k + 1) := by
  refine blk_cat a5 ?_
  rw [blk_iff]; intro t ht; rw [show t = 0 by lia]; exact e
 have := a7 (k + 1) i j (by lia) a1 (by lia) a3 (by lia) hc
 rw [lt3_not] at this; simp only at this; lia
inductive StillZ (h₀ : Heap) (L : Addr) (m : Str → Option Value) (news : List (Addr × Obj)) (s : Shared) (f : Flow) (s' : Shared) : Prop
 | mk (e0 : f = .next) (h tk : _) (e1 : s' = { s with heap := h, toks := tk }) (e2 : Fr h₀ L h m) (e3 : News h₀ L h news) : StillZ h₀ L m news s f s'
theorem still {h₀ h : Heap} {L : Addr} {m : Str → Option Value} {news : List (Addr × Obj)} {s : Shared} {tk : Nat} {b : Bool} (e : b = false) (F : Fr h₀ L h m) (N : News h₀ L h news) : b = false ∧ StillZ h₀ L m news s .next { s with heap := h, toks := tk } := ⟨e, rfl, h, tk, rfl, F, N⟩
inductive TailEnd (h₀ : Heap) (A0 B0 : List Str) (alo ahi blo bhi : Nat) (s : Shared) (f : Flow) (s' : Shared) : Prop
 | mk (h tk x dx k i j t1 t2 t3 : _) (e0 : f = .ret (.ref x)) (e1 : s' = { s with heap := h, toks := tk }) (e2 : Keeps h₀ h) (e3 : h₀.get? x = none) (e4 : h.get? x = some (matchObj dx #[.int ((i : Nat) : Int) t1, .int ((j : Nat) : Int) t2, .int ((k : Nat) : Int) t3])) (e5 : IsBest A0 B0 alo ahi blo bhi k i j) : TailEnd h₀ A0 B0 alo ahi blo bhi s f s'
theorem mX1 {a b k h l : Nat} (q : a < b) (h1 : b + k ≤ h) (h2 : h ≤ l) : b - 1 < l := Nat.lt_of_lt_of_le (Nat.sub_lt (Nat.zero_lt_of_lt q) (Nat.succ_pos 0)) (Nat.le_trans (Nat.le_trans (Nat.le_add_right b k) h1) h2)
theorem mX2 {a b : Nat} {z : Int} (e : z = (b : Int)) (q : a < b) : z - 1 = ((b - 1 : Nat) : Int) := by rw [e]; exact (Int.ofNat_sub (Nat.zero_lt_of_lt q)).symm
noncomputable section
namespace cflm_tail
noncomputable def zP (w : World) (d0 u0 : Nat) (fr0 : Option (List Env)) (gd0 : Option (List Code)) (s : Shared) (h₀ : Heap) (L a b d jk bjk : Addr) (o : Obj) (m : Str → Option Value) (A0 B0 : List Str) (v0 v1 : List Value) (ka kb : Nat) (P : List PlE) (led : Bool) (alo ahi blo bhi : Nat) (t4 t5 t6 t7 : Tok) : Prop := ∀ (C : Cx w h₀) (R : Room (Around.deeper { depth := d0, frames := fr0, guards := gd0, units := u0 } (flmEnv L)) 6) (F : Fr h₀ L s.heap m) (N : News h₀ L s.heap [(bjk, boundOf "set.__contains__" jk)]) (la : h₀.get? a = some (listOf v0.toArray ka)) (lb : h₀.get? b = some (listOf v1.toArray kb)) (sa : StrsAre v0 A0) (sb : StrsAre v1 B0) (zx : A0.length ≤ 6) (zy : B0.length ≤ 6) (hjk : h₀.get? jk = some { cls := .type "set", data := .set #[] 0 (SetTable.fresh 0 0 led) }) (hd : h₀.get? d = some o) (hD : o.IsDictOf (PySem.strKind pw w) (kvsP P)) (Ip : PlInv B0 B0.length P) (hP : ∀ p ∈ ledP P, h₀.get? p.1 = some p.2) (lo : (d == sysModules) = false) (ha : alo ≤ ahi) (ha2 : ahi ≤ A0.length) (hb : blo ≤ bhi) (hb2 : bhi ≤ B0.length) (m6 : m (Str.ofString "a") = some (.ref a)) (m5 : m (Str.ofString "b") = some (.ref b)) (m7 : m (Str.ofString "b2j") = some (.ref d)) (m4 : m (Str.ofString "isbjunk") = some (.ref bjk)) (m8 : m (Str.ofString "alo") = some (.int alo t4)) (m9 : m (Str.ofString "ahi") = some (.int ahi t7)) (m10 : m (Str.ofString "blo") = some (.int blo t5)) (m11 : m (Str.ofString "bhi") = some (.int bhi t6)), wpAny (model pw w) (Around.deeper { depth := d0, frames := fr0, guards := gd0, units := u0 } (flmEnv L)) (execs (flmBody.drop 4) (flmEnv L))
   (TailEnd h₀ A0 B0 alo ahi blo bhi s) (fun _ _ => False) s
noncomputable def zT (x : YY) : Prop := zP (x 1 0) (x 0 1) (x 0 2) (x 10 3) (x 11 4) (x 5 5) (x 2 6) (x 0 7) (x 0 8) (x 0 9) (x 0 10) (x 0 11) (x 0 12) (x 3 13) (x 6 14) (x 13 15) (x 13 16) (x 4 17) (x 4 18) (x 0 19) (x 0 20) (x 37 21) (x 38 22) (x 0 23) (x 0 24) (x 0 25) (x 0 26) (x 0 27) (x 0 28) (x 0 29) (x 0 30)
noncomputable def zC := pickY zT
@[irreducible] def w : World := zC 1 0
def d0 : Nat := zC 0 1
def u0 : Nat := zC 0 2
@[irreducible] def fr0 : Option (List Env) := zC 10 3
@[irreducible] def gd0 : Option (List Code) := zC 11 4
@[irreducible] def s : Shared := zC 5 5
@[irreducible] def h₀ : Heap := zC 2 6
def L : Addr := zC 0 7
def a : Addr := zC 0 8
def b : Addr := zC 0 9
def d : Addr := zC 0 10
def jk : Addr := zC 0 11
def bjk : Addr := zC 0 12
@[irreducible] def o : Obj := zC 3 13
def m : Str → Option Value := zC 6 14
@[irreducible] def A0 : List Str := zC 13 15
@[irreducible] def B0 : List Str := zC 13 16
@[irreducible] def v0 : List Value := zC 4 17
@[irreducible] def v1 : List Value := zC 4 18
def ka : Nat := zC 0 19
def kb : Nat := zC 0 20
@[irreducible] def P : List PlE := zC 37 21
def led : Bool := zC 38 22
def alo : Nat := zC 0 23
def ahi : Nat := zC 0 24
def blo : Nat := zC 0 25
def bhi : Nat := zC 0 26
def t4 : Tok := zC 0 27
def t5 : Tok := zC 0 28
def t6 : Tok := zC 0 29
def t7 : Tok := zC 0 30
theorem zA (h : zP w d0 u0 fr0 gd0 s h₀ L a b d jk bjk o m A0 B0 v0 v1 ka kb P led alo ahi blo bhi t4 t5 t6 t7) : ∀ y, zT y := by with_unfolding_all exact pickY_spec zT h
theorem zK : zP w d0 u0 fr0 gd0 s h₀ L a b d jk bjk o m A0 B0 v0 v1 ka kb P led alo ahi blo bhi t4 t5 t6 t7 := by
 intro C R F N la lb sa sb zx zy hjk hd hD Ip hP lo ha ha2 hb hb2 m6 m5 m7 m4 m8 m9 m10 m11
 have fa := strs_len sa
 have fb := strs_len sb
 w_on
 w_strict (
  have X := Cx.X C
  obtain ⟨mg, mb, T⟩ := Cx.T C
  show wpAny _ _ (execs [_, _, _, _, _, _, _, _, _] _) _ _ _
  walk_at "my steps"
  rename Fr _ _ _ _ => F
  rename News _ _ _ _ => N
  rename Obj.IsDictOf (intKind _ _) _ [] => hnd
  rename (_ == sysModules) = false => lod
  refine' cut_exec (flm_for (alo := alo) (ahi := ahi) (blo := blo) (bhi := bhi) C F (news_sub N (by walk_at "my sub")) la lb sa sb zx zy hd hD Ip hP lo hnd lod ha ha2 hb hb2 ?e1 ?e2 ?e3 ?q1 ?q2 ?q3 ?q4 ?q6 ?q7 ?q8 ?q9 ?q10 ?q11 ?q12) ?_
  case q1 => walk_at "my look"
  case q2 => walk_at "my look"
  case q3 => walk_at "my look"
  case q4 => walk_at "my look"
  case q6 => walk_at "my look"
  case q7 => walk_at "my look"
  case q8 => walk_at "my look"
  case q9 => walk_at "my look"
  case q10 => walk_at "my look"
  case q11 => walk_at "my look"
  case q12 => walk_at "my look"
  case e1 => exact rfl
  case e2 => exact rfl
  case e3 => exact rfl
  clear F N hnd lod
  rintro f s' ⟨rfl, h', tk', m2, k, bi, bj, zi, zj, zk, u1, u2, u3, rfl, F, N, HB, e1, e2, e3, f1, f2, f3, hE⟩
  have g5 : m2 (Str.ofString "a") = some (.ref a) := (hE _ (by simp)).trans (by walk_at "my look")
  have g6 : m2 (Str.ofString "b") = some (.ref b) := (hE _ (by simp)).trans (by walk_at "my look")
  have g8 : m2 (Str.ofString "alo") = some (.int alo t4) := (hE _ (by simp)).trans (by walk_at "my look")
  have g9 : m2 (Str.ofString "ahi") = some (.int ahi t7) := (hE _ (by simp)).trans (by walk_at "my look")
  have g10 : m2 (Str.ofString "blo") = some (.int blo t5) := (hE _ (by simp)).trans (by walk_at "my look")
  have g11 : m2 (Str.ofString "bhi") = some (.int bhi t6) := (hE _ (by simp)).trans (by walk_at "my look")
  have g12 : m2 (Str.ofString "isbjunk") = some (.ref bjk) := (hE _ (by simp)).trans (by walk_at "my look")
  clear hE m4 m5 m6 m7 m8 m9 m10 m11
  walk_at "my steps"
  have hA : ∀ q : Nat, q < A0.length → ∃ c t, A0[q]? = some c ∧ v0[q]? = some (.str c t) := fun q hq => let ⟨t, ht⟩ := strs_get sa (List.getElem?_eq_getElem hq); ⟨_, t, List.getElem?_eq_getElem hq, ht⟩
  have hB : ∀ q : Nat, q < B0.length → ∃ c t, B0[q]? = some c ∧ v1[q]? = some (.str c t) := fun q hq => let ⟨t, ht⟩ := strs_get sb (List.getElem?_eq_getElem hq); ⟨_, t, List.getElem?_eq_getElem hq, ht⟩
  obtain ⟨b1, b2, b3, b4, -, b6, -⟩ := id HB
  refine' cut_exec (P := StillZ h₀ L m2 [(bjk, boundOf "set.__contains__" jk)] s) (while_none ?_) ?_
  ·by_cases hq1 : alo < bi
   ·have c1 : (alo : Int) < zi := by rw [e1]; exact Int.ofNat_lt.mpr hq1
    by_cases hq2 : blo < bj
    ·have c2 : (blo : Int) < zj := by rw [e2]; exact Int.ofNat_lt.mpr hq2
     have c3 := mX1 hq1 b2 ha2
     have c4 := mX1 hq2 b4 hb2
     have c5 : bi - 1 < 100000 := Nat.lt_of_lt_of_le c3 (Nat.le_trans zx (by decide))
     have c6 : bj - 1 < 100000 := Nat.lt_of_lt_of_le c4 (Nat.le_trans zy (by decide))
     obtain ⟨ca, ta, ha1, ha2⟩ := hA (bi - 1) c3
     obtain ⟨cb, tb, hb1, hb2⟩ := hB (bj - 1) c4
     have hne : ca ≠ cb := fun e => best_left HB hq1 hq2 (by rw [ha1, hb1, e])
     have i1 := mX2 e1 hq1
     have i2 := mX2 e2 hq2
     repeat' ((fail_if_success with_reducible show wpAny _ _ (callWith _ (Value.ref _) _ _ _) _ _ _); walk_at "my step1")
     refine' callWith_own ?zN ?zm ?_
     walk_at "my nm"
     walk_at "my steps"
     ·exact News.get (by walk_at "a") (by k_mem)
     refine' call_contains ?zN ?zm ?zd ?_
     walk_at "my nm"
     case zd => exact (Fr.keep (by walk_at "a") _ _ (by walk_at "a"))
     walk_at "my steps"
     all_goals first | exact ⟨rfl, _, _, rfl, by walk_at "a", by walk_at "a"⟩ | exact absurd (beq_iff_eq.mp (by walk_at "a")) hne
    ·have c2 : ¬(blo : Int) < zj := by rw [e2]; exact fun h => hq2 (Int.ofNat_lt.mp h)
     walk_at "my steps"
     all_goals exact ⟨rfl, _, _, rfl, by walk_at "a", by walk_at "a"⟩
   ·have c1 : ¬(alo : Int) < zi := by rw [e1]; exact fun h => hq1 (Int.ofNat_lt.mp h)
    walk_at "my steps"
    all_goals exact ⟨rfl, _, _, rfl, by walk_at "a", by walk_at "a"⟩
  clear F N
  rintro f s' ⟨rfl, h', tk', rfl, F, N⟩
  walk_at "my steps"
  refine' cut_exec (P := StillZ h₀ L m2 [(bjk, boundOf "set.__contains__" jk)] s) (while_none ?_) ?_
  ·by_cases hq1 : bi + k < ahi
   ·have c1 : zi + zk < (ahi : Int) := by rw [e1, e3]; exact Int.ofNat_lt.mpr hq1
    by_cases hq2 : bj + k < bhi
    ·have c2 : zj + zk < (bhi : Int) := by rw [e2, e3]; exact Int.ofNat_lt.mpr hq2
     have c3 := Nat.lt_of_lt_of_le hq1 ha2
     have c4 := Nat.lt_of_lt_of_le hq2 hb2
     have c5 : bi + k < 100000 := Nat.lt_of_lt_of_le c3 (Nat.le_trans zx (by decide))
     have c6 : bj + k < 100000 := Nat.lt_of_lt_of_le c4 (Nat.le_trans zy (by decide))
     obtain ⟨ca, ta, ha1, ha2⟩ := hA (bi + k) c3
     obtain ⟨cb, tb, hb1, hb2⟩ := hB (bj + k) c4
     have hne : ca ≠ cb := fun e => best_right HB hq1 hq2 (by rw [ha1, hb1, e])
     have i1 : zi + zk = ((bi + k : Nat) : Int) := by rw [e1, e3]; rfl
     have i2 : zj + zk = ((bj + k : Nat) : Int) := by rw [e2, e3]; rfl
     repeat' ((fail_if_success with_reducible show wpAny _ _ (callWith _ (Value.ref _) _ _ _) _ _ _); walk_at "my step1")
     refine' callWith_own ?zN ?zm ?_
     walk_at "my nm"
     walk_at "my steps"
     ·exact News.get (by walk_at "a") (by k_mem)
     refine' call_contains ?zN ?zm ?zd ?_
     walk_at "my nm"
     case zd => exact (Fr.keep (by walk_at "a") _ _ (by walk_at "a"))
     walk_at "my steps"
     all_goals first | exact ⟨rfl, _, _, rfl, by walk_at "a", by walk_at "a"⟩ | exact absurd (beq_iff_eq.mp (by walk_at "a")) hne
    ·have c2 : ¬zj + zk < (bhi : Int) := by rw [e2, e3]; exact fun h => hq2 (Int.ofNat_lt.mp h)
     walk_at "my steps"
     all_goals exact ⟨rfl, _, _, rfl, by walk_at "a", by walk_at "a"⟩
   ·have c1 : ¬zi + zk < (ahi : Int) := by rw [e1, e3]; exact fun h => hq1 (Int.ofNat_lt.mp h)
    walk_at "my steps"
    all_goals exact ⟨rfl, _, _, rfl, by walk_at "a", by walk_at "a"⟩
  clear F N
  rintro f s' ⟨rfl, h', tk', rfl, F, N⟩
  walk_at "my steps"
  refine' cut_exec (P := StillZ h₀ L m2 [(bjk, boundOf "set.__contains__" jk)] s) (while_none ?_) ?_
  ·by_cases hq1 : alo < bi
   ·have c1 : (alo : Int) < zi := by rw [e1]; exact Int.ofNat_lt.mpr hq1
    by_cases hq2 : blo < bj
    ·have c2 : (blo : Int) < zj := by rw [e2]; exact Int.ofNat_lt.mpr hq2
     have c3 := mX1 hq1 b2 ha2
     have c4 := mX1 hq2 b4 hb2
     have c5 : bi - 1 < 100000 := Nat.lt_of_lt_of_le c3 (Nat.le_trans zx (by decide))
     have c6 : bj - 1 < 100000 := Nat.lt_of_lt_of_le c4 (Nat.le_trans zy (by decide))
     obtain ⟨ca, ta, ha1, ha2⟩ := hA (bi - 1) c3
     obtain ⟨cb, tb, hb1, hb2⟩ := hB (bj - 1) c4
     have hne : ca ≠ cb := fun e => best_left HB hq1 hq2 (by rw [ha1, hb1, e])
     have i1 := mX2 e1 hq1
     have i2 := mX2 e2 hq2
     repeat' ((fail_if_success with_reducible show wpAny _ _ (callWith _ (Value.ref _) _ _ _) _ _ _); walk_at "my step1")
     refine' callWith_own ?zN ?zm ?_
     walk_at "my nm"
     walk_at "my steps"
     ·exact News.get (by walk_at "a") (by k_mem)
     refine' call_contains ?zN ?zm ?zd ?_
     walk_at "my nm"
     case zd => exact (Fr.keep (by walk_at "a") _ _ (by walk_at "a"))
     walk_at "my steps"
     all_goals first | exact ⟨rfl, _, _, rfl, by walk_at "a", by walk_at "a"⟩ | exact absurd (beq_iff_eq.mp (by walk_at "a")) hne
    ·have c2 : ¬(blo : Int) < zj := by rw [e2]; exact fun h => hq2 (Int.ofNat_lt.mp h)
     walk_at "my steps"
     all_goals exact ⟨rfl, _, _, rfl, by walk_at "a", by walk_at "a"⟩
   ·have c1 : ¬(alo : Int) < zi := by rw [e1]; exact fun h => hq1 (Int.ofNat_lt.mp h)
    walk_at "my steps"
    all_goals exact ⟨rfl, _, _, rfl, by walk_at "a", by walk_at "a"⟩
  clear F N
  rintro f s' ⟨rfl, h', tk', rfl, F, N⟩
  walk_at "my steps"
  refine' cut_exec (P := StillZ h₀ L m2 [(bjk, boundOf "set.__contains__" jk)] s) (while_none ?_) ?_
  ·by_cases hq1 : bi + k < ahi
   ·have c1 : zi + zk < (ahi : Int) := by rw [e1, e3]; exact Int.ofNat_lt.mpr hq1
    by_cases hq2 : bj + k < bhi
    ·have c2 : zj + zk < (bhi : Int) := by rw [e2, e3]; exact Int.ofNat_lt.mpr hq2
     have c3 := Nat.lt_of_lt_of_le hq1 ha2
     have c4 := Nat.lt_of_lt_of_le hq2 hb2
     have c5 : bi + k < 100000 := Nat.lt_of_lt_of_le c3 (Nat.le_trans zx (by decide))
     have c6 : bj + k < 100000 := Nat.lt_of_lt_of_le c4 (Nat.le_trans zy (by decide))
     obtain ⟨ca, ta, ha1, ha2⟩ := hA (bi + k) c3
     obtain ⟨cb, tb, hb1, hb2⟩ := hB (bj + k) c4
     have hne : ca ≠ cb := fun e => best_right HB hq1 hq2 (by rw [ha1, hb1, e])
     have i1 : zi + zk = ((bi + k : Nat) : Int) := by rw [e1, e3]; rfl
     have i2 : zj + zk = ((bj + k : Nat) : Int) := by rw [e2, e3]; rfl
     repeat' ((fail_if_success with_reducible show wpAny _ _ (callWith _ (Value.ref _) _ _ _) _ _ _); walk_at "my step1")
     refine' callWith_own ?zN ?zm ?_
     walk_at "my nm"
     walk_at "my steps"
     ·exact News.get (by walk_at "a") (by k_mem)
     refine' call_contains ?zN ?zm ?zd ?_
     walk_at "my nm"
     case zd => exact (Fr.keep (by walk_at "a") _ _ (by walk_at "a"))
     walk_at "my steps"
     all_goals first | exact ⟨rfl, _, _, rfl, by walk_at "a", by walk_at "a"⟩ | exact absurd (beq_iff_eq.mp (by walk_at "a")) hne
    ·have c2 : ¬zj + zk < (bhi : Int) := by rw [e2, e3]; exact fun h => hq2 (Int.ofNat_lt.mp h)
     walk_at "my steps"
     all_goals exact ⟨rfl, _, _, rfl, by walk_at "a", by walk_at "a"⟩
   ·have c1 : ¬zi + zk < (ahi : Int) := by rw [e1, e3]; exact fun h => hq1 (Int.ofNat_lt.mp h)
    walk_at "my steps"
    all_goals exact ⟨rfl, _, _, rfl, by walk_at "a", by walk_at "a"⟩
  clear F N
  rintro f s' ⟨rfl, h', tk', rfl, F, N⟩
  walk_at "my steps"
  refine' match_ ?C ?R ?_
  case C => exact Cx.keeps C (Fr.keep F)
  case R => exact Room.le R (by decide)
  intro h1 tk1 x dx ti tj tz K1 n1 x1
  walk_at "my steps"
  exact ⟨h1, _, x, dx, k, bi, bj, ti, tj, tz, rfl, rfl, Keeps.trans (Fr.keep F) K1, none_of_keeps (Fr.keep F) n1, by rw [x1, e1, e2, e3], HB⟩)
end cflm_tail
end
theorem flm_tail {w : World} {d0 u0 : Nat} {fr0 : Option (List Env)} {gd0 : Option (List Code)} {s : Shared} {h₀ : Heap} {L a b d jk bjk : Addr} {o : Obj} {m : Str → Option Value} {A0 B0 : List Str} {v0 v1 : List Value} {ka kb : Nat} {P : List PlE} {led : Bool} {alo ahi blo bhi : Nat} {t4 t5 t6 t7 : Tok} : cflm_tail.zP w d0 u0 fr0 gd0 s h₀ L a b d jk bjk o m A0 B0 v0 v1 ka kb P led alo ahi blo bhi t4 t5 t6 t7 := cflm_tail.zA cflm_tail.zK (putY (⟨1, w⟩ :: ⟨0, d0⟩ :: ⟨0, u0⟩ :: ⟨10, fr0⟩ :: ⟨11, gd0⟩ :: ⟨5, s⟩ :: ⟨2, h₀⟩ :: ⟨0, L⟩ :: ⟨0, a⟩ :: ⟨0, b⟩ :: ⟨0, d⟩ :: ⟨0, jk⟩ :: ⟨0, bjk⟩ :: ⟨3, o⟩ :: ⟨6, m⟩ :: ⟨13, A0⟩ :: ⟨13, B0⟩ :: ⟨4, v0⟩ :: ⟨4, v1⟩ :: ⟨0, ka⟩ :: ⟨0, kb⟩ :: ⟨37, P⟩ :: ⟨38, led⟩ :: ⟨0, alo⟩ :: ⟨0, ahi⟩ :: ⟨0, blo⟩ :: ⟨0, bhi⟩ :: ⟨0, t4⟩ :: ⟨0, t5⟩ :: ⟨0, t6⟩ :: ⟨0, t7⟩ :: []))
end
section
noncomputable section
namespace clongest_
noncomputable def zP (w : World) (A : Around) (E : Value → Shared → Prop) (s : Shared) (Q : Value → Shared → Prop) (a b x dx jk d : Addr) (v0 v1 : List Value) (ka kb n : Nat) (xs ys : List Str) (mb : Value) (o : Obj) (P : List PlE) (alo ahi blo bhi : Nat) (t1 t2 t3' t4 : Tok) : Prop := ∀ {oj : Obj} {es : List DictEntry} (C : Cx w s.heap) (R : Room A 8) (la : s.heap.get? a = some (listOf v0.toArray ka)) (lb : s.heap.get? b = some (listOf v1.toArray kb)) (sa : StrsAre v0 xs) (sb : StrsAre v1 ys) (zx : xs.length ≤ 6) (zy : ys.length ≤ 6) (hx : s.heap.get? x = some (instObj 242 dx)) (hdx : s.heap.get? dx = some (dictOf es n)) (hjk : s.heap.get? jk = some oj) (hd : s.heap.get? d = some o) (hP : ∀ p ∈ ledP P, s.heap.get? p.1 = some p.2) (M : SMat w a b mb ys x dx jk d o P es oj) (ha : alo ≤ ahi) (ha2 : ahi ≤ xs.length) (hb : blo ≤ bhi) (hb2 : bhi ≤ ys.length) (hQ : ∀ h tk x' dx' k i j t1 t2 t3, Keeps s.heap h → s.heap.get? x' = none → h.get? x' = some (matchObj dx' #[.int ((i : Nat) : Int) t1, .int ((j : Nat) : Int) t2, .int ((k : Nat) : Int) t3]) → IsBest xs ys alo ahi blo bhi k i j → Q (.ref x') { s with heap := h, toks := tk }), wpAny (model pw w) A (call (.ref 196) [.ref x, .int alo t1, .int ahi t2, .int blo t3', .int bhi t4]) Q E s
noncomputable def zT (x : YY) : Prop := zP (x 1 0) { depth := (x 0 1), frames := (x 10 2), guards := (x 11 3), units := (x 0 4) } (x 9 5) (x 5 6) (x 9 7) (x 0 8) (x 0 9) (x 0 10) (x 0 11) (x 0 12) (x 0 13) (x 4 14) (x 4 15) (x 0 16) (x 0 17) (x 0 18) (x 13 19) (x 13 20) (x 32 21) (x 3 22) (x 37 23) (x 0 24) (x 0 25) (x 0 26) (x 0 27) (x 0 28) (x 0 29) (x 0 30) (x 0 31)
noncomputable def zC := pickY zT
@[irreducible] def w : World := zC 1 0
def d0 : Nat := zC 0 1
@[irreducible] def fr0 : Option (List Env) := zC 10 2
@[irreducible] def gd0 : Option (List Code) := zC 11 3
def u0 : Nat := zC 0 4
@[irreducible] def E : Value → Shared → Prop := zC 9 5
@[irreducible] def s : Shared := zC 5 6
@[irreducible] def Q : Value → Shared → Prop := zC 9 7
def a : Addr := zC 0 8
def b : Addr := zC 0 9
def x : Addr := zC 0 10
def dx : Addr := zC 0 11
def jk : Addr := zC 0 12
def d : Addr := zC 0 13
@[irreducible] def v0 : List Value := zC 4 14
@[irreducible] def v1 : List Value := zC 4 15
def ka : Nat := zC 0 16
def kb : Nat := zC 0 17
def n : Nat := zC 0 18
@[irreducible] def xs : List Str := zC 13 19
@[irreducible] def ys : List Str := zC 13 20
@[irreducible] def mb : Value := zC 32 21
@[irreducible] def o : Obj := zC 3 22
@[irreducible] def P : List PlE := zC 37 23
def alo : Nat := zC 0 24
def ahi : Nat := zC 0 25
def blo : Nat := zC 0 26
def bhi : Nat := zC 0 27
def t1 : Tok := zC 0 28
def t2 : Tok := zC 0 29
def t3' : Tok := zC 0 30
def t4 : Tok := zC 0 31
theorem zA (h : zP w { depth := d0, frames := fr0, guards := gd0, units := u0 } E s Q a b x dx jk d v0 v1 ka kb n xs ys mb o P alo ahi blo bhi t1 t2 t3' t4) : ∀ y, zT y := by with_unfolding_all exact pickY_spec zT h
theorem zK : zP w { depth := d0, frames := fr0, guards := gd0, units := u0 } E s Q a b x dx jk d v0 v1 ka kb n xs ys mb o P alo ahi blo bhi t1 t2 t3' t4 := by
 intro oj es C R la lb sa sb zx zy hx hdx hjk hd hP M ha ha2 hb hb2 hQ
 have I0 := sm_inst hx hdx
 obtain ⟨k0, k1, k2, k3, k4, k5, k6, k7, k8, k9, jp, rfl⟩ := M.dict
 simp only [smDict] at I0
 w_on
 w_strict (
  (rename Room _ _ => R0); refine wpAny_call ?_
  have XX := Cx.X C
  refine' enter [(Str.ofString "self", .ref x), (Str.ofString "alo", .int alo t1), (Str.ofString "ahi", .int ahi t2), (Str.ofString "blo", .int blo t3'), (Str.ofString "bhi", .int bhi t4)] ?k1 ?k6 ?k7 ?k8 ?k9 ?kB ?_ ?c2 ?c3 ?c4 ?c5
  ( k_dflt ((case k1 => assumption); (case k6 => k_is); (case k7 => k_is); (case k8 => assumption); (case k9 => walk_at "my binds"); (case c5 => decide); (case kB => exact locs rfl); (case c2 => exact rfl); (case c3 => exact rfl); (case c4 => exact rfl); intro h' F' N' R'; (try dsimp only at F'); (try dsimp only)); have X := Cx.X (by assumption); obtain ⟨mg, mb, T⟩ := Cx.T (by assumption))
  clear XX
  walk_at "my steps"
  obtain ⟨led, rfl⟩ := M.junk
  rename Fr _ _ _ _ => F
  rename News _ _ _ _ => N
  refine bound_contains F N ⟨_, _, _, rfl⟩ (F.keep _ _ hjk) ?_
  clear F N
  intro bj h1 tk1 F1 N1 l1
  k_lt l1
  repeat' ((fail_if_success with_reducible show wpAny _ _ (execs (Stmt.Assign [Expr.Tuple [_, _, _] _ _] _ _ :: _) _) _ _ _); (fail_if_success with_reducible show wpAny _ _ (exec (Stmt.Assign [Expr.Tuple [_, _, _] _ _] _ _) _) _ _ _); walk_at "my step1")
  rename Fr _ _ _ _ => F
  rename News _ _ _ _ => N
  rename Room _ _ => RR
  refine' cut_exec (flm_tail (alo := alo) (ahi := ahi) (blo := blo) (bhi := bhi) C (Room.le RR (by decide)) F (news_sub N (by walk_at "my sub")) la lb sa sb zx zy hjk hd M.b2j M.inv hP M.low ha ha2 hb hb2 ?q6 ?q5 ?q7 ?q4 ?q8 ?q9 ?q10 ?q11) ?_
  case q6 => walk_at "my look"
  case q5 => walk_at "my look"
  case q7 => walk_at "my look"
  case q4 => walk_at "my look"
  case q8 => walk_at "my look"
  case q9 => walk_at "my look"
  case q10 => walk_at "my look"
  case q11 => walk_at "my look"
  rintro f s' ⟨h, tk, x', dx', k, i, j, u1, u2, u3, rfl, rfl, K, n0, hx', HB⟩
  exact hQ h tk x' dx' k i j u1 u2 u3 K n0 hx' HB)
end clongest_
end
theorem longest_ {w : World} {A : Around} {E : Value → Shared → Prop} {s : Shared} {Q : Value → Shared → Prop} {a b x dx jk d : Addr} {v0 v1 : List Value} {ka kb n : Nat} {xs ys : List Str} {mb : Value} {o : Obj} {P : List PlE} {alo ahi blo bhi : Nat} {t1 t2 t3' t4 : Tok} : clongest_.zP w A E s Q a b x dx jk d v0 v1 ka kb n xs ys mb o P alo ahi blo bhi t1 t2 t3' t4 := by
 intro oj es C R
 obtain ⟨hd0, d0, fr0, gd0, u0⟩ := A
 have hh0 := Room.handled R
 dsimp only at hh0
 subst hh0
 exact clongest_.zA clongest_.zK (putY (⟨1, w⟩ :: ⟨0, d0⟩ :: ⟨10, fr0⟩ :: ⟨11, gd0⟩ :: ⟨0, u0⟩ :: ⟨9, E⟩ :: ⟨5, s⟩ :: ⟨9, Q⟩ :: ⟨0, a⟩ :: ⟨0, b⟩ :: ⟨0, x⟩ :: ⟨0, dx⟩ :: ⟨0, jk⟩ :: ⟨0, d⟩ :: ⟨4, v0⟩ :: ⟨4, v1⟩ :: ⟨0, ka⟩ :: ⟨0, kb⟩ :: ⟨0, n⟩ :: ⟨13, xs⟩ :: ⟨13, ys⟩ :: ⟨32, mb⟩ :: ⟨3, o⟩ :: ⟨37, P⟩ :: ⟨0, alo⟩ :: ⟨0, ahi⟩ :: ⟨0, blo⟩ :: ⟨0, bhi⟩ :: ⟨0, t1⟩ :: ⟨0, t2⟩ :: ⟨0, t3'⟩ :: ⟨0, t4⟩ :: [])) C R
end
section
noncomputable section
namespace clongest0_
noncomputable def zP (w : World) (A : Around) (E : Value → Shared → Prop) (s : Shared) (Q : Value → Shared → Prop) (a b x dx jk d : Addr) (v0 v1 : List Value) (ka kb n : Nat) (xs ys : List Str) (mb : Value) (o : Obj) (P : List PlE) : Prop := ∀ {oj : Obj} {es : List DictEntry} (C : Cx w s.heap) (R : Room A 8) (la : s.heap.get? a = some (listOf v0.toArray ka)) (lb : s.heap.get? b = some (listOf v1.toArray kb)) (sa : StrsAre v0 xs) (sb : StrsAre v1 ys) (zx : xs.length ≤ 6) (zy : ys.length ≤ 6) (hx : s.heap.get? x = some (instObj 242 dx)) (hdx : s.heap.get? dx = some (dictOf es n)) (hjk : s.heap.get? jk = some oj) (hd : s.heap.get? d = some o) (hP : ∀ p ∈ ledP P, s.heap.get? p.1 = some p.2) (M : SMat w a b mb ys x dx jk d o P es oj) (hQ : ∀ h tk x' dx' k i j t1 t2 t3, Keeps s.heap h → s.heap.get? x' = none → h.get? x' = some (matchObj dx' #[.int ((i : Nat) : Int) t1, .int ((j : Nat) : Int) t2, .int ((k : Nat) : Int) t3]) → IsBest xs ys 0 xs.length 0 ys.length k i j → Q (.ref x') { s with heap := h, toks := tk }), wpAny (model pw w) A (call (.ref 196) [.ref x]) Q E s
noncomputable def zT (x : YY) : Prop := zP (x 1 0) { depth := (x 0 1), frames := (x 10 2), guards := (x 11 3), units := (x 0 4) } (x 9 5) (x 5 6) (x 9 7) (x 0 8) (x 0 9) (x 0 10) (x 0 11) (x 0 12) (x 0 13) (x 4 14) (x 4 15) (x 0 16) (x 0 17) (x 0 18) (x 13 19) (x 13 20) (x 32 21) (x 3 22) (x 37 23)
noncomputable def zC := pickY zT
@[irreducible] def w : World := zC 1 0
def d0 : Nat := zC 0 1
@[irreducible] def fr0 : Option (List Env) := zC 10 2
@[irreducible] def gd0 : Option (List Code) := zC 11 3
def u0 : Nat := zC 0 4
@[irreducible] def E : Value → Shared → Prop := zC 9 5
@[irreducible] def s : Shared := zC 5 6
@[irreducible] def Q : Value → Shared → Prop := zC 9 7
def a : Addr := zC 0 8
def b : Addr := zC 0 9
def x : Addr := zC 0 10
def dx : Addr := zC 0 11
def jk : Addr := zC 0 12
def d : Addr := zC 0 13
@[irreducible] def v0 : List Value := zC 4 14
@[irreducible] def v1 : List Value := zC 4 15
def ka : Nat := zC 0 16
def kb : Nat := zC 0 17
def n : Nat := zC 0 18
@[irreducible] def xs : List Str := zC 13 19
@[irreducible] def ys : List Str := zC 13 20
@[irreducible] def mb : Value := zC 32 21
@[irreducible] def o : Obj := zC 3 22
@[irreducible] def P : List PlE := zC 37 23
theorem zA (h : zP w { depth := d0, frames := fr0, guards := gd0, units := u0 } E s Q a b x dx jk d v0 v1 ka kb n xs ys mb o P) : ∀ y, zT y := by with_unfolding_all exact pickY_spec zT h
theorem zK : zP w { depth := d0, frames := fr0, guards := gd0, units := u0 } E s Q a b x dx jk d v0 v1 ka kb n xs ys mb o P := by
 intro oj es C R la lb sa sb zx zy hx hdx hjk hd hP M hQ
 have I0 := sm_inst hx hdx
 obtain ⟨k0, k1, k2, k3, k4, k5, k6, k7, k8, k9, jp, rfl⟩ := M.dict
 simp only [smDict] at I0
 w_on
 w_strict (
  (rename Room _ _ => R0); refine wpAny_call ?_
  have XX := Cx.X C
  refine' enter [(Str.ofString "self", .ref x), (Str.ofString "alo", .int 0 464), (Str.ofString "ahi", .none), (Str.ofString "blo", .int 0 465), (Str.ofString "bhi", .none)] ?k1 ?k6 ?k7 ?k8 ?k9 ?kB ?_ ?c2 ?c3 ?c4 ?c5
  ( k_dflt ((case k1 => assumption); (case k6 => k_is); (case k7 => k_is); (case k8 => assumption); (case k9 => walk_at "my binds"); (case c5 => decide); (case kB => exact locs rfl); (case c2 => exact rfl); (case c3 => exact rfl); (case c4 => exact rfl); intro h' F' N' R'; (try dsimp only at F'); (try dsimp only)); have X := Cx.X (by assumption); obtain ⟨mg, mb, T⟩ := Cx.T (by assumption))
  clear XX
  walk_at "my steps"
  obtain ⟨led, rfl⟩ := M.junk
  rename Fr _ _ _ _ => F
  rename News _ _ _ _ => N
  refine bound_contains F N ⟨_, _, _, rfl⟩ (F.keep _ _ hjk) ?_
  clear F N
  intro bj h1 tk1 F1 N1 l1
  k_lt l1
  repeat' ((fail_if_success with_reducible show wpAny _ _ (call (Value.builtin "len") _) _ _ _); (fail_if_success with_reducible show wpAny _ _ (execs (Stmt.Assign [Expr.Tuple [_, _, _] _ _] _ _ :: _) _) _ _ _); (fail_if_success with_reducible show wpAny _ _ (exec (Stmt.Assign [Expr.Tuple [_, _, _] _ _] _ _) _) _ _ _); walk_at "my step1")
  iterate 2
   refine' len_base ?za ?zb ?zc ?zd ?_
   case za => walk_at "a"
   case zb => walk_at "a"
   case zc => walk_at "a"
   case zd => walk_at "a"
   repeat' ((fail_if_success with_reducible show wpAny _ _ (call (Value.builtin "len") _) _ _ _); (fail_if_success with_reducible show wpAny _ _ (execs (Stmt.Assign [Expr.Tuple [_, _, _] _ _] _ _ :: _) _) _ _ _); (fail_if_success with_reducible show wpAny _ _ (exec (Stmt.Assign [Expr.Tuple [_, _, _] _ _] _ _) _) _ _ _); walk_at "my step1")
  repeat' ((fail_if_success with_reducible show wpAny _ _ (execs (Stmt.Assign [Expr.Tuple [_, _, _] _ _] _ _ :: _) _) _ _ _); (fail_if_success with_reducible show wpAny _ _ (exec (Stmt.Assign [Expr.Tuple [_, _, _] _ _] _ _) _) _ _ _); walk_at "my step1")
  rename Fr _ _ _ _ => F
  rename News _ _ _ _ => N
  rename Room _ _ => RR
  refine' cut_exec (flm_tail (alo := 0) (ahi := xs.length) (blo := 0) (bhi := ys.length) C (Room.le RR (by decide)) F (news_sub N (by walk_at "my sub")) la lb sa sb zx zy hjk hd M.b2j M.inv hP M.low (Nat.zero_le _) (Nat.le_refl _) (Nat.zero_le _) (Nat.le_refl _) ?q6 ?q5 ?q7 ?q4 ?q8 ?q9 ?q10 ?q11) ?_
  case q6 => walk_at "my look"
  case q5 => walk_at "my look"
  case q7 => walk_at "my look"
  case q4 => walk_at "my look"
  case q8 => walk_at "my look"
  case q9 => walk_at "my look"
  case q10 => walk_at "my look"
  case q11 => walk_at "my look"
  rintro f s' ⟨h, tk, x', dx', k, i, j, u1, u2, u3, rfl, rfl, K, n0, hx', HB⟩
  exact hQ h tk x' dx' k i j u1 u2 u3 K n0 hx' HB)
end clongest0_
end
theorem longest0_ {w : World} {A : Around} {E : Value → Shared → Prop} {s : Shared} {Q : Value → Shared → Prop} {a b x dx jk d : Addr} {v0 v1 : List Value} {ka kb n : Nat} {xs ys : List Str} {mb : Value} {o : Obj} {P : List PlE} : clongest0_.zP w A E s Q a b x dx jk d v0 v1 ka kb n xs ys mb o P := by
 intro oj es C R
 obtain ⟨hd0, d0, fr0, gd0, u0⟩ := A
 have hh0 := Room.handled R
 dsimp only at hh0
 subst hh0
 exact clongest0_.zA clongest0_.zK (putY [⟨1, w⟩, ⟨0, d0⟩, ⟨10, fr0⟩, ⟨11, gd0⟩, ⟨0, u0⟩, ⟨9, E⟩, ⟨5, s⟩, ⟨9, Q⟩, ⟨0, a⟩, ⟨0, b⟩, ⟨0, x⟩, ⟨0, dx⟩, ⟨0, jk⟩, ⟨0, d⟩, ⟨4, v0⟩, ⟨4, v1⟩, ⟨0, ka⟩, ⟨0, kb⟩, ⟨0, n⟩, ⟨13, xs⟩, ⟨13, ys⟩, ⟨32, mb⟩, ⟨3, o⟩, ⟨37, P⟩]) C R
end
section
section
variable {prog : Program} {w : World} {A : Around} {E : Value → Shared → Prop} {s : Shared} {h₀ : Heap} {L D : Addr} {m : Str → Option Value} {news : List (Addr × Obj)}
theorem pop_in {p : List Value} {y : Value} {n : Nat} {Q : Value → Shared → Prop} (F : Fr h₀ L s.heap m) (N : News h₀ L s.heap news) (hm : (D, listOf (p ++ [y]).toArray n) ∈ news) (rest : List (Addr × Obj)) (hr : ∀ q ∈ rest, q ∈ news ∧ q.1 ≠ D) (hz : p.length ≤ 1000)
  (h : ∀ h', Fr h₀ L h' m → News h₀ L h' ((D, listOf p.toArray (n + 1)) :: rest) → Q y { s with heap := h' }) : wpAny (model prog w) A (call (.builtin "list.pop") [.ref D]) Q E s := by
 have N1 : News h₀ L s.heap ((D, listOf (p ++ [y]).toArray n) :: rest) := fun q hq => by
  rcases List.mem_cons.mp hq with rfl | hq
  ·exact N _ hm
  ·exact N _ (hr q hq).1
 exact kl_pop F N1 (kpa_last y p) (.head fun q hq => (hr q hq).2) (by rw [sizeLine_eq]; show (p ++ [y]).length ≤ _; rw [List.length_append]; simp; lia) h
theorem truthy_led {its : Array Value} {n : Nat} {Q : Bool → Shared → Prop} (N : News h₀ L s.heap news) (hm : (D, listOf its n) ∈ news) (hz : its.size ≤ 1000)
  (h : ∀ tk, Q (!its.isEmpty) { s with toks := tk }) : wpAny (model prog w) A (truthy (.ref D)) Q E s :=
 wpAny_truthy_list ⟨_, N.get hm, rfl, _, rfl⟩ (by lia) (h _)
end
theorem name_off {D : Addr} {l : List (Addr × Obj)} (h : PyProof.Rows.LCg.Off1 D l) : ∀ p ∈ l, p.1 ≠ D := off1_mem h
theorem unpack_led {w : World} {A : Around} {E : Value → Shared → Prop} {s : Shared} {h₀ : Heap} {L : Addr} {m : Str → Option Value} {news : List (Addr × Obj)} {env : Env} {e1 e2 e3 : Expr} {x1 : Nat} {pos : Pos} {x dx : Addr} {a b c : Value} {Q : Unit → Shared → Prop} (hh0 : A.handled = none) (C : Cx w s.heap) (F : Fr h₀ L s.heap m) (N : News h₀ L s.heap news) (hm : (x, matchObj dx #[a, b, c]) ∈ news)
  (hn : (assignEach [e1, e2, e3] env).length = 3) (hstar : (assignEach [e1, e2, e3] env).findIdx? (·.1) = none)
  (h : ∀ h', Fr h₀ L h' m → News h₀ L h' news → wpAny (model pw w) A (assignInOrder ((assignEach [e1, e2, e3] env).map (·.2)) [a, b, c]) Q E { s with heap := h' }) :
  wpAny (model pw w) A (assign (.Tuple [e1, e2, e3] x1 pos) env (.ref x)) Q E s :=
 unpack_match hh0 C.X (N.get hm) hn hstar fun h' k => by
  have K : Keeps s.heap h' := fun b o e => k b o (Nat.ne_of_lt (Heap.lt_size e)) e
  exact h h' (fr_keeps F K) (news_keeps N K)
noncomputable abbrev gmEnv (L : Addr) : Env := envOf (Str.ofString "SequenceMatcher.get_matching_blocks") (fScope (nth (bodyOf (nth pw.main.body 5)) 7)) L 203 (Value.ref 202)
noncomputable abbrev gmBody : List Stmt := bodyOf (nth (bodyOf (nth pw.main.body 5)) 7)
end
section
inductive PushEnd (h₀ : Heap) (L q mbl : Addr) (m : Str → Option Value) (its : Array Value) (mn : Nat) (add : List (Addr × Obj)) (W : List Win) (s : Shared) (f : Flow) (s' : Shared) : Prop
 | mk (e0 : f = .next) (h tk qits qn add' : _) (e1 : s' = { s with heap := h, toks := tk }) (e2 : Fr h₀ L h m) (e3 : News h₀ L h ((q, listOf qits qn) :: (mbl, listOf its mn) :: add')) (e4 : (∀ p ∈ add, p ∈ add')) (e5 : (∀ p ∈ add', p.1 ≠ q)) (e6 : (∀ p ∈ add', p.1 ≠ mbl)) (e7 : Ws add' qits.toList W) : PushEnd h₀ L q mbl m its mn add W s f s'
theorem push_no {h₀ h : Heap} {L q mbl : Addr} {m : Str → Option Value} {its qits : Array Value} {mn qn tk : Nat} {add : List (Addr × Obj)} {W : List Win} {s : Shared} {c : Prop} [Decidable c] {x : Win} (F : Fr h₀ L h m) (N : News h₀ L h ((q, listOf qits qn) :: (mbl, listOf its mn) :: add)) (ha1 : ∀ p ∈ add, p.1 ≠ q) (ha2 : ∀ p ∈ add, p.1 ≠ mbl) (hW : Ws add qits.toList W) (hc : ¬ c) :
  PushEnd h₀ L q mbl m its mn add (W ++ if c then [x] else []) s .next { s with heap := h, toks := tk } := by
 rw [if_neg hc, List.append_nil]
 exact ⟨rfl, h, tk, qits, qn, add, rfl, F, N, fun _ h => h, ha1, ha2, hW⟩
theorem push_yes {h₀ h : Heap} {L q mbl T : Addr} {m : Str → Option Value} {its qits : Array Value} {mn qn tk : Nat} {add : List (Addr × Obj)} {W : List Win} {s : Shared} {c : Prop} [Decidable c] {x : Win} {oT : Obj} (F : Fr h₀ L h m) (N : News h₀ L h ((T, oT) :: (q, listOf (qits.push (.ref T)) (qn + 1)) :: (mbl, listOf its mn) :: add)) (ha1 : ∀ p ∈ add, p.1 ≠ q) (ha2 : ∀ p ∈ add, p.1 ≠ mbl) (hW : Ws add qits.toList W) (l1 : q < T ∧ mbl < T ∧ PySem.W.AllLt T add) (hc : c) {u1 u2 u3 u4 : Tok} (hT : oT = t4 x u1 u2 u3 u4) :
  PushEnd h₀ L q mbl m its mn add (W ++ if c then [x] else []) s .next { s with heap := h, toks := tk } := by
 rw [if_pos hc]
 subst hT
 refine ⟨rfl, h, tk, qits.push (.ref T), qn + 1, (T, t4 x u1 u2 u3 u4) :: add, rfl, F, news_sub N (fun p hp => ?_), fun _ h => .tail _ h, List.forall_mem_cons.mpr ⟨Ne.symm (Nat.ne_of_lt l1.1), ha1⟩, List.forall_mem_cons.mpr ⟨Ne.symm (Nat.ne_of_lt l1.2.1), ha2⟩, ?_⟩
 ·rcases List.mem_cons.mp hp with rfl | hp
  ·exact .tail _ (.head _)
  ·rcases List.mem_cons.mp hp with rfl | hp
   ·exact .tail _ (.tail _ (.head _))
   ·rcases List.mem_cons.mp hp with rfl | hp
    ·exact .head _
    ·exact .tail _ (.tail _ (.tail _ hp))
 ·rw [Array.toList_push]
  exact (Ws.mono hW fun p hp => .tail _ hp).snoc ⟨T, _, _, _, _, rfl, .head _⟩
theorem gm_left {w : World} {d0 u0 : Nat} {fr0 : Option (List Env)} {gd0 : Option (List Code)} {s : Shared} {h₀ : Heap} {L q mbl : Addr} {qits its : Array Value} {qn mn : Nat} {add : List (Addr × Obj)} {W : List Win} {m : Str → Option Value} {alo blo i j : Nat} {t1 t2 t3' t4' : Tok}
  (C : Cx w h₀) (F : Fr h₀ L s.heap m) (N : News h₀ L s.heap ((q, listOf qits qn) :: (mbl, listOf its mn) :: add)) (n1 : @Ne Nat mbl q) (ha1 : ∀ p ∈ add, p.1 ≠ q) (ha2 : ∀ p ∈ add, p.1 ≠ mbl) (hW : Ws add qits.toList W) (hz : qits.size ≤ 100) (zi : i ≤ 6) (zj : j ≤ 6)
  (m1 : m (Str.ofString "alo") = some (.int alo t1)) (m2 : m (Str.ofString "i") = some (.int i t2)) (m3 : m (Str.ofString "blo") = some (.int blo t3')) (m4 : m (Str.ofString "j") = some (.int j t4')) (m5 : m (Str.ofString "queue") = some (.ref q)) :
  wpAny (model pw w) (Around.deeper { depth := d0, frames := fr0, guards := gd0, units := u0 } (gmEnv L)) (exec (nth (bodyOf (nth (bodyOf (nth gmBody 5)) 2)) 1) (gmEnv L))
   (PushEnd h₀ L q mbl m its mn add (W ++ (if alo < i ∧ blo < j then [⟨alo, i, blo, j⟩] else [])) s) (fun _ _ => False) s := by
 w_on
 w_strict (
  have X := Cx.X C
  obtain ⟨mg, mb', Tp⟩ := Cx.T C
  show wpAny _ _ (exec (Stmt.If _ _ _ _) _) _ _ _
  walk_at "my steps"
  ·refine' push_yes ?pF ?pN ha1 ha2 hW ?pl ?pc ?pe
   case pF => walk_at "a"
   case pN => walk_at "a"
   case pl => walk_at "a"
   case pc => lia
   case pe => exact rfl
  ·exact push_no F N ha1 ha2 hW (by lia)
  ·exact push_no F N ha1 ha2 hW (by lia))
theorem gm_right {w : World} {d0 u0 : Nat} {fr0 : Option (List Env)} {gd0 : Option (List Code)} {s : Shared} {h₀ : Heap} {L q mbl : Addr} {qits its : Array Value} {qn mn : Nat} {add : List (Addr × Obj)} {W : List Win} {m : Str → Option Value} {ahi bhi i j k : Nat} {t1 t2 t3' t4' t5 : Tok}
  (C : Cx w h₀) (F : Fr h₀ L s.heap m) (N : News h₀ L s.heap ((q, listOf qits qn) :: (mbl, listOf its mn) :: add)) (n1 : @Ne Nat mbl q) (ha1 : ∀ p ∈ add, p.1 ≠ q) (ha2 : ∀ p ∈ add, p.1 ≠ mbl) (hW : Ws add qits.toList W) (hz : qits.size ≤ 100) (zi : i + k ≤ 6) (zj : j + k ≤ 6) (z1 : ahi ≤ 6) (z2 : bhi ≤ 6)
  (m1 : m (Str.ofString "ahi") = some (.int ahi t1)) (m2 : m (Str.ofString "i") = some (.int i t2)) (m3 : m (Str.ofString "bhi") = some (.int bhi t3')) (m4 : m (Str.ofString "j") = some (.int j t4')) (m6 : m (Str.ofString "k") = some (.int k t5)) (m5 : m (Str.ofString "queue") = some (.ref q)) :
  wpAny (model pw w) (Around.deeper { depth := d0, frames := fr0, guards := gd0, units := u0 } (gmEnv L)) (exec (nth (bodyOf (nth (bodyOf (nth gmBody 5)) 2)) 2) (gmEnv L))
   (PushEnd h₀ L q mbl m its mn add (W ++ (if i + k < ahi ∧ j + k < bhi then [⟨i + k, ahi, j + k, bhi⟩] else [])) s) (fun _ _ => False) s := by
 w_on
 w_strict (
  have X := Cx.X C
  obtain ⟨mg, mb', Tp⟩ := Cx.T C
  show wpAny _ _ (exec (Stmt.If _ _ _ _) _) _ _ _
  walk_at "my steps"
  ·refine' push_yes ?pF ?pN ha1 ha2 hW ?pl ?pc ?pe
   case pF => walk_at "a"
   case pN => walk_at "a"
   case pl => walk_at "a"
   case pc => lia
   case pe => exact rfl
  ·exact push_no F N ha1 ha2 hW (by lia)
  ·exact push_no F N ha1 ha2 hW (by lia))
end
section
inductive GwEnd (h₀ : Heap) (L mbl : Addr) (due : List (Int × Int × Int)) (m₀ : Str → Option Value) (s : Shared) (f : Flow) (s' : Shared) : Prop
 | mk (e0 : f = .next) (h tk m its n add M : _) (e1 : s' = { s with heap := h, toks := tk }) (e2 : Fr h₀ L h m) (e3 : News h₀ L h ((mbl, listOf its n) :: add)) (e4 : (∀ p ∈ add, p.1 ≠ mbl)) (e5 : Ms add its.toList M) (e6 : M.Perm due) (e7 : m (Str.ofString "matching_blocks") = some (.ref mbl)) (e8 : (∀ y ∈ [Str.ofString "self", Str.ofString "la", Str.ofString "lb"], m y = m₀ y)) : GwEnd h₀ L mbl due m₀ s f s'
inductive GwJ (x : Addr) (q : Addr) (mbl : Addr) (xs : List Str) (ys : List Str) (m : Str → Option Value) (due : List (Int × Int × Int)) (g : Nat) (m' : Str → Option Value) (news : List (Addr × Obj)) : Prop
 | mk (qits qn its mn add W Mt : _) (e0 : news = (q, listOf qits qn) :: (mbl, listOf its mn) :: add) (e1 : (∀ p ∈ add, p.1 ≠ q)) (e2 : (∀ p ∈ add, p.1 ≠ mbl)) (e3 : Ws add qits.toList W) (e4 : Ms add its.toList Mt) (e5 : GmInv xs ys due Mt W) (e6 : wsumZ W = g) (e7 : g ≤ 100) (e8 : m' (Str.ofString "self") = some (.ref x)) (e9 : m' (Str.ofString "queue") = some (.ref q)) (e10 : m' (Str.ofString "matching_blocks") = some (.ref mbl)) (e11 : m' (Str.ofString "la") = m (Str.ofString "la")) (e12 : m' (Str.ofString "lb") = m (Str.ofString "lb")) : GwJ x q mbl xs ys m due g m' news
noncomputable section
namespace cgm_while
noncomputable def zP (w : World) (d0 u0 : Nat) (fr0 : Option (List Env)) (gd0 : Option (List Code)) (s : Shared) (h₀ : Heap) (L a b x dx jk d q mbl T : Addr) (v0 v1 : List Value) (ka kb n : Nat) (xs ys : List Str) (mb : Value) (o oj : Obj) (P : List PlE) (es : List DictEntry) (m : Str → Option Value) (t1 t2 t3' t4' : Tok) (due : List (Int × Int × Int)) : Prop := ∀ (C : Cx w h₀) (R : Room (Around.deeper { depth := d0, frames := fr0, guards := gd0, units := u0 } (gmEnv L)) 8) (F : Fr h₀ L s.heap m) (la : h₀.get? a = some (listOf v0.toArray ka)) (lb : h₀.get? b = some (listOf v1.toArray kb)) (sa : StrsAre v0 xs) (sb : StrsAre v1 ys) (zx : xs.length ≤ 6) (zy : ys.length ≤ 6) (hx : h₀.get? x = some (instObj 242 dx)) (hdx : h₀.get? dx = some (dictOf es n)) (hjk : h₀.get? jk = some oj) (hd : h₀.get? d = some o) (hP : ∀ p ∈ ledP P, h₀.get? p.1 = some p.2) (M : SMat w a b mb ys x dx jk d o P es oj) (N : News h₀ L s.heap [(mbl, listOf #[] 0), (q, listOf #[.ref T] 0), (T, t4 ⟨0, xs.length, 0, ys.length⟩ t1 t2 t3' t4')]) (n1 : @Ne Nat mbl q) (n2 : @Ne Nat mbl T) (n3 : @Ne Nat q T) (B : Blks xs ys 0 xs.length 0 ys.length due) (hz : due.length ≤ 4) (m1 : m (Str.ofString "self") = some (.ref x)) (m2 : m (Str.ofString "queue") = some (.ref q)) (m3 : m (Str.ofString "matching_blocks") = some (.ref mbl)), wpAny (model pw w) (Around.deeper { depth := d0, frames := fr0, guards := gd0, units := u0 } (gmEnv L)) (exec (nth gmBody 5) (gmEnv L))
   (GwEnd h₀ L mbl due m s) (fun _ _ => False) s
noncomputable def zT (x : YY) : Prop := zP (x 1 0) (x 0 1) (x 0 2) (x 10 3) (x 11 4) (x 5 5) (x 2 6) (x 0 7) (x 0 8) (x 0 9) (x 0 10) (x 0 11) (x 0 12) (x 0 13) (x 0 14) (x 0 15) (x 0 16) (x 4 17) (x 4 18) (x 0 19) (x 0 20) (x 0 21) (x 13 22) (x 13 23) (x 32 24) (x 3 25) (x 3 26) (x 37 27) (x 39 28) (x 6 29) (x 0 30) (x 0 31) (x 0 32) (x 0 33) (x 31 34)
noncomputable def zC := pickY zT
@[irreducible] def w : World := zC 1 0
def d0 : Nat := zC 0 1
def u0 : Nat := zC 0 2
@[irreducible] def fr0 : Option (List Env) := zC 10 3
@[irreducible] def gd0 : Option (List Code) := zC 11 4
@[irreducible] def s : Shared := zC 5 5
@[irreducible] def h₀ : Heap := zC 2 6
def L : Addr := zC 0 7
def a : Addr := zC 0 8
def b : Addr := zC 0 9
def x : Addr := zC 0 10
def dx : Addr := zC 0 11
def jk : Addr := zC 0 12
def d : Addr := zC 0 13
def q : Addr := zC 0 14
def mbl : Addr := zC 0 15
def T : Addr := zC 0 16
@[irreducible] def v0 : List Value := zC 4 17
@[irreducible] def v1 : List Value := zC 4 18
def ka : Nat := zC 0 19
def kb : Nat := zC 0 20
def n : Nat := zC 0 21
@[irreducible] def xs : List Str := zC 13 22
@[irreducible] def ys : List Str := zC 13 23
@[irreducible] def mb : Value := zC 32 24
@[irreducible] def o : Obj := zC 3 25
@[irreducible] def oj : Obj := zC 3 26
@[irreducible] def P : List PlE := zC 37 27
@[irreducible] def es : List DictEntry := zC 39 28
def m : Str → Option Value := zC 6 29
def t1 : Tok := zC 0 30
def t2 : Tok := zC 0 31
def t3' : Tok := zC 0 32
def t4' : Tok := zC 0 33
@[irreducible] def due : List (Int × Int × Int) := zC 31 34
theorem zA (h : zP w d0 u0 fr0 gd0 s h₀ L a b x dx jk d q mbl T v0 v1 ka kb n xs ys mb o oj P es m t1 t2 t3' t4' due) : ∀ y, zT y := by with_unfolding_all exact pickY_spec zT h
namespace zB
noncomputable def zQ : {zz : Nat → (Str → Option Value) → Heap → Nat → Nat → (Array Value) → Nat → (List (Addr × Obj)) → (List (Int × Int × Int)) → (List Win) → (List Value) → Addr → Tok → Tok → Tok → Tok → Nat → Nat → Nat → Nat → Heap → Nat → Heap → Nat → Addr → Addr → Nat → Nat → Tok → Tok → Tok → Prop // (∀ g m' h zy1 qn its mn add Mt W' qs ta u1 u2 u3 u4 alo ahi blo bhi zy8 tk h2 tk2 y dy i j t1 t2 t3, zz g m' h zy1 qn its mn add Mt W' qs ta u1 u2 u3 u4 alo ahi blo bhi zy8 tk h2 tk2 y dy i j t1 t2 t3) → zP w d0 u0 fr0 gd0 s h₀ L a b x dx jk d q mbl T v0 v1 ka kb n xs ys mb o oj P es m t1 t2 t3' t4' due} := ⟨_, by
 intro zh
 intro C R F la lb sa sb zx zy hx hdx hjk hd hP M N n1 n2 n3 B hz m1 m2 m3
 have I0 := sm_inst hx hdx
 obtain ⟨k0, k1, k2, k3, k4, k5, k6, k7, k8, k9, jp, hes⟩ := M.dict
 rw [hes] at I0
 simp only [smDict] at I0
 w_on
 w_strict (
  have X := Cx.X C
  obtain ⟨mg, mb', Tp⟩ := Cx.T C
  show wpAny _ _ (exec (Stmt.While _ _ _ _) _) _ _ _
  refine while_inv (GwJ x q mbl xs ys m due) (2 * xs.length + 1) F (news_sub N (news' := [(q, listOf #[.ref T] 0), (mbl, listOf #[] 0), (T, t4 ⟨0, xs.length, 0, ys.length⟩ t1 t2 t3' t4')]) (by walk_at "my sub")) ?hj ?turn
  case hj =>
   refine ⟨_, _, _, _, _, [⟨0, xs.length, 0, ys.length⟩], [], rfl, ?_, ?_, .cons _ _ _ _ ⟨T, _, _, _, _, rfl, .head _⟩ .nil, .nil, gm_start B, by simp [wsumZ], by lia, m1, m2, m3, rfl, rfl⟩
   ·intro p hp; rw [List.mem_singleton.mp hp]; exact Ne.symm n3
   ·intro p hp; rw [List.mem_singleton.mp hp]; exact Ne.symm n2
  clear F N
  rintro g m' news h tk ⟨qits, qn, its, mn, add, W, Mt, rfl, ha1, ha2, hW, hM, hI, hg, hg2, f1, f2, f3, f4, f5⟩ F N
  have hql : qits.size = W.length := by have := All2.length hW; rwa [Array.length_toList] at this
  have hml : its.size = Mt.length := by have := All2.length hM; rwa [Array.length_toList] at this
  have hwl := wsum_len W
  have hmz := gm_len hI
  have zq : qits.size ≤ 1000 := by lia
  have zm : its.size ≤ 1000 := by lia
  walk_at "my steps"
  ·have hW0 : W = [] := by
    apply List.eq_nil_of_length_eq_zero
    rw [← hql]
    simpa [Array.isEmpty] using (by walk_at "a" : qits.isEmpty = true)
   subst hW0
   refine ⟨rfl, _, _, _, its, mn, add, Mt, rfl, by walk_at "a", news_sub (by walk_at "a") (by walk_at "my sub"), ha2, hM, gm_end hI, f3, ?_⟩
   intro y hy
   simp only [List.mem_cons, List.not_mem_nil, or_false] at hy
   rcases hy with rfl | rfl | rfl
   ·rw [f1, m1]
   ·exact f4
   ·exact f5
  ·have hW0 : W ≠ [] := by
    intro e
    rw [e] at hql
    have := (by walk_at "a" : qits.isEmpty = false)
    rw [Array.isEmpty, hql] at this
    simp at this
   obtain ⟨W', wn, rfl⟩ : ∃ W' wn, W = W' ++ [wn] := ⟨W.dropLast, W.getLast hW0, (List.dropLast_concat_getLast hW0).symm⟩
   obtain ⟨qs, v, hqs, hWq, hv⟩ := hW.unsnoc
   have hqe : qits = (qs ++ [v]).toArray := by rw [← hqs, Array.toArray_toList]
   subst hqe
   obtain ⟨ta, u1, u2, u3, u4, rfl, hta⟩ := hv
   have ok := gm_ok hI
   obtain ⟨o1, o2, o3, o4⟩ := ok
   obtain ⟨alo, ahi, blo, bhi⟩ := wn
   dsimp only at o1 o2 o3 o4
   unfold t4 at hta
   dsimp only at hta
   rename Fr _ _ _ _ => F
   rename News _ _ _ _ => N
   refine' pop_in F N (.head _) ((ta, { cls := .type "tuple", data := .seq #[.int ((alo : Nat) : Int) u1, .int ((ahi : Nat) : Int) u2, .int ((blo : Nat) : Int) u3, .int ((bhi : Nat) : Int) u4] }) :: (mbl, listOf its mn) :: add) ?hr ?hz ?_
   case hr =>
    refine List.forall_mem_cons.mpr ⟨⟨.tail _ (.tail _ hta), ha1 _ hta⟩, List.forall_mem_cons.mpr ⟨⟨.tail _ (.head _), n1⟩, fun p hp => ⟨.tail _ (.tail _ hp), ha1 p hp⟩⟩⟩
   case hz => rw [List.size_toArray, List.length_append] at zq; lia
   clear F N
   intro h1 F N
   walk_at "my steps"
   rename Fr _ _ _ _ => F
   rename News _ _ _ _ => N
   refine' longest_ (Cx.keeps C (Fr.keep F)) R (F.keep _ _ la) (F.keep _ _ lb) sa sb zx zy (F.keep _ _ hx) (F.keep _ _ hdx) (F.keep _ _ hjk) (F.keep _ _ hd) (fun p hp => F.keep _ _ (hP p hp)) M o1 o2 o3 o4 ?_
   intro h2 tk2 y dy k i j t1 t2 t3 K n0 ey HB
   obtain ⟨F1, N1, oy⟩ := news_back F N K n0 ey
   clear F N K n0 ey
   have yq : y ≠ q := Ne.symm (off1_mem oy _ (by walk_at "my memA" : (q, listOf qs.toArray (qn + 1)) ∈ _))
   have ym : y ≠ mbl := Ne.symm (off1_mem oy _ (by walk_at "my memA" : (mbl, listOf its mn) ∈ _))
   clear oy
   have hyM : IsM ((y, matchObj dy #[.int (i : Int) t1, .int (j : Int) t2, .int (k : Int) t3]) :: add) (.ref y) ((i : Int), (j : Int), (k : Int)) := ⟨y, dy, t1, t2, t3, rfl, .head _⟩
   have hsub : ∀ p ∈ add, p ∈ (y, matchObj dy #[.int (i : Int) t1, .int (j : Int) t2, .int (k : Int) t3]) :: add := fun p hp => .tail _ hp
   have hoq : ∀ p ∈ (y, matchObj dy #[.int (i : Int) t1, .int (j : Int) t2, .int (k : Int) t3]) :: add, p.1 ≠ q := List.forall_mem_cons.mpr ⟨yq, ha1⟩
   have hom : ∀ p ∈ (y, matchObj dy #[.int (i : Int) t1, .int (j : Int) t2, .int (k : Int) t3]) :: add, p.1 ≠ mbl := List.forall_mem_cons.mpr ⟨ym, ha2⟩
   obtain ⟨b1, b2, b3, b4, -, -, -⟩ := id HB
   rename_i zy1 zy2 zy3 zy4 zy5 zy6 zy7 zy8
   clear b3 b1 yq zy7 zy6 zy5 zy4 h1 o3 o1 hW hta hW0 hqs zy3 zq zy2 zm Tp mb' mg X hes I0 jp k9 k8 k7 k6 k5 k4 k3 k2 k1 k0 m3 m2 m1 B n3 n2 M hP hd hjk hdx hx sb sa lb la R
   revert C zx zy n1 hz ha1 ha2 hM hg2 f1 f2 f3 f4 f5 hml hmz hWq hI hg hwl hql o2 o4 k HB F1 N1 ym hyM hsub hoq hom b2 b4
   revert g m' h zy1 qn its mn add Mt W' qs ta u1 u2 u3 u4 alo ahi blo bhi zy8 tk h2 tk2 y dy i j t1 t2 t3
   exact @zh)
 ⟩
noncomputable def zT (x : YY) : Prop := zQ.1 (x 0 0) (x 6 1) (x 2 2) (x 0 3) (x 0 4) (x 29 5) (x 0 6) (x 7 7) (x 31 8) (x 40 9) (x 4 10) (x 0 11) (x 0 12) (x 0 13) (x 0 14) (x 0 15) (x 0 16) (x 0 17) (x 0 18) (x 0 19) (x 2 20) (x 0 21) (x 2 22) (x 0 23) (x 0 24) (x 0 25) (x 0 26) (x 0 27) (x 0 28) (x 0 29) (x 0 30)
noncomputable def zC := pickY zT
def g : Nat := zC 0 0
def m' : Str → Option Value := zC 6 1
@[irreducible] def h : Heap := zC 2 2
def zy1 : Nat := zC 0 3
def qn : Nat := zC 0 4
@[irreducible] def its : Array Value := zC 29 5
def mn : Nat := zC 0 6
@[irreducible] def add : List (Addr × Obj) := zC 7 7
@[irreducible] def Mt : List (Int × Int × Int) := zC 31 8
@[irreducible] def W' : List Win := zC 40 9
@[irreducible] def qs : List Value := zC 4 10
def ta : Addr := zC 0 11
def u1 : Tok := zC 0 12
def u2 : Tok := zC 0 13
def u3 : Tok := zC 0 14
def u4 : Tok := zC 0 15
def alo : Nat := zC 0 16
def ahi : Nat := zC 0 17
def blo : Nat := zC 0 18
def bhi : Nat := zC 0 19
@[irreducible] def zy8 : Heap := zC 2 20
def tk : Nat := zC 0 21
@[irreducible] def h2 : Heap := zC 2 22
def tk2 : Nat := zC 0 23
def y : Addr := zC 0 24
def dy : Addr := zC 0 25
def i : Nat := zC 0 26
def j : Nat := zC 0 27
def t1 : Tok := zC 0 28
def t2 : Tok := zC 0 29
def t3 : Tok := zC 0 30
theorem zA (h : zQ.1 g m' h zy1 qn its mn add Mt W' qs ta u1 u2 u3 u4 alo ahi blo bhi zy8 tk h2 tk2 y dy i j t1 t2 t3) : ∀ y, zT y := by with_unfolding_all exact pickY_spec zT h
theorem zK : zQ.1 g m' h zy1 qn its mn add Mt W' qs ta u1 u2 u3 u4 alo ahi blo bhi zy8 tk h2 tk2 y dy i j t1 t2 t3 := by
 intro C zx zy n1 hz ha1 ha2 hM hg2 f1 f2 f3 f4 f5 hml hmz hWq hI hg hwl hql o2 o4 k HB F1 N1 ym hyM hsub hoq hom b2 b4
 w_on
 w_strict (
  have X := Cx.X C
  obtain ⟨mg, mb', Tp⟩ := Cx.T C
  repeat' ((fail_if_success with_reducible show wpAny _ _ (exec (Stmt.If (Expr.BoolOp _ _ _) _ _ _) _) _ _ _); (fail_if_success with_reducible show wpAny _ _ (call (Value.builtin "list.append") _) _ _ _); walk_at "my step1")
  refine' unpack_led ?za ?zC ?zF ?zN ?zm ?zb ?zc ?_
  case za => exact rfl
  case zC => walk_at "my cx"
  case zF => walk_at "a"
  walk_at "my nm"
  case zb => exact rfl
  case zc => exact rfl
  intro zh7 zF7 zN7
  k_sweep
  repeat' ((fail_if_success with_reducible show wpAny _ _ (exec (Stmt.If (Expr.BoolOp _ _ _) _ _ _) _) _ _ _); (fail_if_success with_reducible show wpAny _ _ (call (Value.builtin "list.append") _) _ _ _); walk_at "my step1")
  ·-- a block
   have hk : 0 < k := by
    rcases Nat.eq_zero_or_pos k with z | z
    ·subst z; simp at *
    ·exact z
   obtain ⟨gI, gw⟩ := gm_some hI HB hk
   dsimp only at gI gw
   rename Fr _ _ _ _ => F
   rename News _ _ _ _ => N
   have nmq : @Ne Nat mbl q := n1
   refine' append_inZ F N (by walk_at "my memA") ((y, matchObj dy #[.int (i : Int) t1, .int (j : Int) t2, .int (k : Int) t3]) :: (q, listOf qs.toArray (qn + 1)) :: add) ?hr ?hz ?_
   case hr =>
    refine List.forall_mem_cons.mpr ⟨⟨by walk_at "my memA", ym⟩, List.forall_mem_cons.mpr ⟨⟨by walk_at "my memA", Ne.symm n1⟩, fun p hp => ⟨by walk_at "my memA", ha2 p hp⟩⟩⟩
   case hz => lia
   clear F N
   intro h3 F N
   repeat' ((fail_if_success with_reducible show wpAny _ _ (exec (Stmt.If (Expr.BoolOp _ _ _) _ _ _) _) _ _ _); (fail_if_success with_reducible show wpAny _ _ (call (Value.builtin "list.append") _) _ _ _); walk_at "my step1")
   rename Fr _ _ _ _ => F
   have N0 := news_sub N (news' := (q, listOf qs.toArray (qn + 1)) :: (mbl, listOf (its.push (.ref y)) (mn + 1)) :: (y, matchObj dy #[.int (i : Int) t1, .int (j : Int) t2, .int (k : Int) t3]) :: add) (by walk_at "my sub")
   have hqz : qs.length ≤ 100 := by rw [List.size_toArray, List.length_append] at hql; simp only [List.length_cons, List.length_nil] at hql; lia
   refine' cut_exec (gm_left (alo := alo) (blo := blo) (i := i) (j := j) C F N0 n1 hoq hom (show Ws _ qs.toArray.toList W' from Ws.mono hWq hsub) ?hz ?zi ?zj ?q1 ?q2 ?q3 ?q4 ?q5) ?_
   case hz => rw [List.size_toArray]; exact hqz
   case zi => lia
   case zj => lia
   case q1 => walk_at "my look"
   case q2 => walk_at "my look"
   case q3 => walk_at "my look"
   case q4 => walk_at "my look"
   case q5 => walk_at "my look"
   have M2 : Ms ((y, matchObj dy #[.int (i : Int) t1, .int (j : Int) t2, .int (k : Int) t3]) :: add) (its.push (.ref y)).toList (Mt ++ [((i : Int), (j : Int), (k : Int))]) := by
    rw [Array.toList_push]
    exact (Ms.mono hM hsub).snoc hyM
   clear F N N0 hM
   rintro f s' ⟨rfl, h4, tk4, qits2, qn2, add2, rfl, F, N, hs2, hq2, hm2, hW2⟩
   repeat' ((fail_if_success with_reducible show wpAny _ _ (exec (Stmt.If (Expr.BoolOp _ _ _) _ _ _) _) _ _ _); (fail_if_success with_reducible show wpAny _ _ (call (Value.builtin "list.append") _) _ _ _); walk_at "my step1")
   have hqz2 : qits2.size ≤ 100 := by
    have := All2.length hW2
    rw [Array.length_toList] at this
    have := wsum_len (W' ++ (if alo < i ∧ blo < j then [⟨alo, i, blo, j⟩] else []))
    rw [wsum_append] at gw
    lia
   rename Fr _ _ _ _ => F
   rename News _ _ _ _ => N
   refine' cut_exec (gm_right (ahi := ahi) (bhi := bhi) (i := i) (j := j) (k := k) C F N n1 hq2 hm2 hW2 hqz2 ?zi ?zj ?z1 ?z2 ?q1 ?q2 ?q3 ?q4 ?q6 ?q5) ?_
   case zi => lia
   case zj => lia
   case z1 => lia
   case z2 => lia
   case q1 => walk_at "my look"
   case q2 => walk_at "my look"
   case q3 => walk_at "my look"
   case q4 => walk_at "my look"
   case q5 => walk_at "my look"
   case q6 => walk_at "my look"
   clear F N hW2
   rintro f s' ⟨rfl, h5, tk5, qits3, qn3, add3, rfl, F, N, hs3, hq3, hm3, hW3⟩
   walk_at "my steps"
   refine' wnext (by walk_at "a") (by walk_at "a") _ ?lt ?wj ?ws
   case ws => exact fun p hp => hp
   case wj =>
    refine' ⟨qits3, qn3, its.push (.ref y), mn + 1, add3, _, _, rfl, hq3, hm3, hW3, Ms.mono M2 (fun p hp => hs3 _ (hs2 _ hp)), gI, rfl, ?gg, ?l1, ?l2, ?l3, ?l4, ?l5⟩
    case gg => lia
    case l1 => walk_at "my lookE"
    case l2 => walk_at "my lookE"
    case l3 => walk_at "my lookE"
    case l4 => walk_at "my lookE"
    case l5 => walk_at "my lookE"
   case lt => rw [← hg]; exact gw
  ·-- none
   have hk : k = 0 := by lia
   subst hk
   have gI := gm_none hI HB
   refine' wnext (news' := (q, listOf qs.toArray (qn + 1)) :: (mbl, listOf its mn) :: add) (by walk_at "a") (by walk_at "a") (wsumZ W') ?lt ?wj ?ws
   case ws => walk_at "my sub"
   case lt => rw [← hg, wsum_append]; simp only [wsumZ]; lia
   case wj =>
    refine' ⟨qs.toArray, qn + 1, its, mn, add, W', Mt, rfl, ha1, ha2, hWq, hM, gI, rfl, ?gg, ?l1, ?l2, ?l3, ?l4, ?l5⟩
    case gg => rw [wsum_append] at hg; lia
    case l1 => walk_at "my lookE"
    case l2 => walk_at "my lookE"
    case l3 => walk_at "my lookE"
    case l4 => walk_at "my lookE"
    case l5 => walk_at "my lookE")
end zB
theorem zK : zP w d0 u0 fr0 gd0 s h₀ L a b x dx jk d q mbl T v0 v1 ka kb n xs ys mb o oj P es m t1 t2 t3' t4' due := zB.zQ.2 fun g m' h zy1 qn its mn add Mt W' qs ta u1 u2 u3 u4 alo ahi blo bhi zy8 tk h2 tk2 y dy i j t1 t2 t3 => zB.zA zB.zK (putY (⟨0, g⟩ :: ⟨6, m'⟩ :: ⟨2, h⟩ :: ⟨0, zy1⟩ :: ⟨0, qn⟩ :: ⟨29, its⟩ :: ⟨0, mn⟩ :: ⟨7, add⟩ :: ⟨31, Mt⟩ :: ⟨40, W'⟩ :: ⟨4, qs⟩ :: ⟨0, ta⟩ :: ⟨0, u1⟩ :: ⟨0, u2⟩ :: ⟨0, u3⟩ :: ⟨0, u4⟩ :: ⟨0, alo⟩ :: ⟨0, ahi⟩ :: ⟨0, blo⟩ :: ⟨0, bhi⟩ :: ⟨2, zy8⟩ :: ⟨0, tk⟩ :: ⟨2, h2⟩ :: ⟨0, tk2⟩ :: ⟨0, y⟩ :: ⟨0, dy⟩ :: ⟨0, i⟩ :: ⟨0, j⟩ :: ⟨0, t1⟩ :: ⟨0, t2⟩ :: ⟨0, t3⟩ :: []))
end cgm_while
end
theorem gm_while {w : World} {d0 u0 : Nat} {fr0 : Option (List Env)} {gd0 : Option (List Code)} {s : Shared} {h₀ : Heap} {L a b x dx jk d q mbl T : Addr} {v0 v1 : List Value} {ka kb n : Nat} {xs ys : List Str} {mb : Value} {o oj : Obj} {P : List PlE} {es : List DictEntry} {m : Str → Option Value} {t1 t2 t3' t4' : Tok} {due : List (Int × Int × Int)} : cgm_while.zP w d0 u0 fr0 gd0 s h₀ L a b x dx jk d q mbl T v0 v1 ka kb n xs ys mb o oj P es m t1 t2 t3' t4' due := cgm_while.zA cgm_while.zK (putY (⟨1, w⟩ :: ⟨0, d0⟩ :: ⟨0, u0⟩ :: ⟨10, fr0⟩ :: ⟨11, gd0⟩ :: ⟨5, s⟩ :: ⟨2, h₀⟩ :: ⟨0, L⟩ :: ⟨0, a⟩ :: ⟨0, b⟩ :: ⟨0, x⟩ :: ⟨0, dx⟩ :: ⟨0, jk⟩ :: ⟨0, d⟩ :: ⟨0, q⟩ :: ⟨0, mbl⟩ :: ⟨0, T⟩ :: ⟨4, v0⟩ :: ⟨4, v1⟩ :: ⟨0, ka⟩ :: ⟨0, kb⟩ :: ⟨0, n⟩ :: ⟨13, xs⟩ :: ⟨13, ys⟩ :: ⟨32, mb⟩ :: ⟨3, o⟩ :: ⟨3, oj⟩ :: ⟨37, P⟩ :: ⟨39, es⟩ :: ⟨6, m⟩ :: ⟨0, t1⟩ :: ⟨0, t2⟩ :: ⟨0, t3'⟩ :: ⟨0, t4'⟩ :: ⟨31, due⟩ :: []))
end
section
theorem go_tuple {prog : Program} {w : World} {A : Around} {elts : List Expr} {x1 : Nat} {pos : Pos} {I l : Addr} {i : Nat} {v : Value} {s' : Shared} {Q' : Unit → Shared → Prop} (hit : s'.heap.IsListIter I l i) (q : Q' () s') : wpAny (model prog w) A (letOwnedTupleGo (.Tuple elts x1 pos) (.ref I) v) Q' (fun _ _ => False) s' := by
 cases v <;> first | exact wpAny_letOwnedTupleGo_listiter hit q | exact wpAny_pure q
structure DueOk (due : List (Int × Int × Int)) : Prop where
 nn : ∀ x ∈ due, 0 ≤ x.1 ∧ x.1 ≤ 6 ∧ 0 ≤ x.2.1 ∧ x.2.1 ≤ 6 ∧ 0 < x.2.2 ∧ x.2.2 ≤ 6
 bef : due.Pairwise Bef
theorem due_ok {xs ys : List Str} {due : List (Int × Int × Int)} (zx : xs.length ≤ 6) (zy : ys.length ≤ 6) (h : Blks xs ys 0 xs.length 0 ys.length due) : DueOk due := by
 obtain ⟨h1, h2⟩ := blks_facts h
 refine ⟨fun x hx => ?_, h2⟩
 obtain ⟨i, j, k, rfl, a1, a2, a3, a4, a5, a6⟩ := h1 x hx
 refine ⟨?_, ?_, ?_, ?_, ?_, ?_⟩ <;> simp only <;> lia
theorem due_sorted {due : List (Int × Int × Int)} (h : DueOk due) : due.Pairwise fun x y => x.1 < y.1 := by
 have key : ∀ l : List (Int × Int × Int), (∀ x ∈ l, 0 < x.2.2) → l.Pairwise Bef → l.Pairwise fun x y => x.1 < y.1 := by
  intro l
  induction l with
  | nil => intro _ _; exact .nil
  | cons a l ih =>
   intro hp hb
   rw [List.pairwise_cons] at hb ⊢
   refine ⟨fun y hy => ?_, ih (fun x hx => hp x (.tail _ hx)) hb.2⟩
   have := (hb.1 y hy).1
   have := hp a (.head _)
   lia
 exact key due (fun x hx => (h.nn x hx).2.2.2.2.1) h.bef
theorem fw3 {lo a b k x y : Int} (h : lo ≤ a + b) (hk : 0 < k) (h1 : a + k ≤ x) (h2 : b + k ≤ y) (h3 : ¬(a + k = x ∧ b + k = y)) : lo + 3 ≤ x + y := by lia
theorem few_len {l : List (Int × Int × Int)} : ∀ {lo : Int}, lo ≤ 13 → (∀ x ∈ l, lo ≤ x.1 + x.2.1 ∧ x.1 + x.2.1 ≤ 10 ∧ 0 < x.2.2) → l.Pairwise Bef → 3 * (l.length : Int) + lo ≤ 13 := by
 induction l with
 | nil => intro lo h _ _; simpa using h
 | cons a l ih =>
  intro lo _ hm hp
  obtain ⟨p1, p2⟩ := List.pairwise_cons.mp hp
  obtain ⟨a1, a2, a3⟩ := hm a (.head _)
  have := ih (lo := lo + 3) (by lia) (fun x hx => by
   obtain ⟨b1, b2, b3⟩ := p1 x hx
   exact ⟨fw3 a1 a3 b1 b2 b3, (hm x (.tail _ hx)).2⟩) p2
  rw [List.length_cons]; lia
theorem due_few {xs ys : List Str} {due : List (Int × Int × Int)} (zx : xs.length ≤ 6) (zy : ys.length ≤ 6) (h : Blks xs ys 0 xs.length 0 ys.length due) : due.length ≤ 4 := by
 obtain ⟨h1, h2⟩ := blks_facts h
 have := few_len (lo := 0) (by decide) (fun x hx => by
  obtain ⟨i, j, k, rfl, a1, a2, a3, a4, a5, -⟩ := h1 x hx
  refine ⟨?_, ?_, ?_⟩ <;> simp only <;> lia) h2
 lia
theorem bef_prev {due : List (Int × Int × Int)} (h : DueOk due) {t : Nat} {x y : Int × Int × Int} (hy : due[t]? = some y) (hx : due[t + 1]? = some x) : Bef y x := by
 obtain ⟨h1, e1⟩ := List.getElem?_eq_some_iff.mp hy
 obtain ⟨h2, e2⟩ := List.getElem?_eq_some_iff.mp hx
 have := List.pairwise_iff_getElem.mp h.bef t (t + 1) h1 h2 (Nat.lt_succ_self _)
 rwa [e1, e2] at this
noncomputable def Cur (due : List (Int × Int × Int)) (t : Nat) (x : Int × Int × Int) : Prop := (t = 0 ∧ x = (0, 0, 0)) ∨ ∃ t', t = t' + 1 ∧ due[t']? = some x
theorem cur_bound {due : List (Int × Int × Int)} {t : Nat} {x : Int × Int × Int} (h : DueOk due) (c : Cur due t x) : 0 ≤ x.1 ∧ x.1 ≤ 6 ∧ 0 ≤ x.2.1 ∧ x.2.1 ≤ 6 ∧ 0 ≤ x.2.2 ∧ x.2.2 ≤ 6 := by
 rcases c with ⟨rfl, rfl⟩ | ⟨t', rfl, hx⟩
 ·simp
 ·have := h.nn x (List.mem_of_getElem? hx)
  exact ⟨this.1, this.2.1, this.2.2.1, this.2.2.2.1, Int.le_of_lt this.2.2.2.2.1, this.2.2.2.2.2⟩
theorem cur_adj {due : List (Int × Int × Int)} {t : Nat} {i1 j1 k1 xi xj xk : Int} (h : DueOk due) (c : Cur due t (i1, j1, k1)) (hx : due[t]? = some (xi, xj, xk)) (e1 : i1 + k1 = xi) (e2 : j1 + k1 = xj) : t = 0 ∧ Cur due (t + 1) (i1, j1, k1 + xk) := by
 rcases c with ⟨rfl, e⟩ | ⟨t', rfl, hy⟩
 ·simp only [Prod.mk.injEq] at e
  obtain ⟨rfl, rfl, rfl⟩ := e
  refine ⟨rfl, .inr ⟨0, rfl, ?_⟩⟩
  rw [hx]
  simp at e1 e2
  rw [← e1, ← e2, Int.zero_add]
 ·have b := bef_prev h hy hx
  exact absurd ⟨e1, e2⟩ b.2.2
theorem cur_zero {due : List (Int × Int × Int)} {t : Nat} {i1 j1 k1 : Int} (h : DueOk due) (c : Cur due t (i1, j1, k1)) (e : k1 = 0) : t = 0 := by
 rcases c with ⟨rfl, _⟩ | ⟨t', rfl, hy⟩
 ·rfl
 ·have := h.nn _ (List.mem_of_getElem? hy)
  simp only at this; lia
theorem cur_push {due : List (Int × Int × Int)} {t : Nat} {i1 j1 k1 : Int} (c : Cur due t (i1, j1, k1)) (e : k1 ≠ 0) : due.take (t - 1) ++ [(i1, j1, k1)] = due.take t := by
 rcases c with ⟨rfl, q⟩ | ⟨t', rfl, hy⟩
 ·simp only [Prod.mk.injEq] at q
  exact absurd q.2.2 e
 ·rw [Nat.add_sub_cancel, List.take_add_one, hy]; rfl
inductive GfEnd (h₀ : Heap) (L na : Addr) (due : List (Int × Int × Int)) (m₀ : Str → Option Value) (s : Shared) (f : Flow) (s' : Shared) : Prop
 | mk (e0 : f = .next) (h tk m ns nn add i1 j1 k1 u1 u2 u3 : _) (e1 : s' = { s with heap := h, toks := tk }) (e2 : Fr h₀ L h m) (e3 : News h₀ L h ((na, listOf ns nn) :: add)) (e4 : (∀ p ∈ add, p.1 ≠ na)) (e5 : T3s add ns.toList (due.take (due.length - 1))) (e6 : Cur due due.length (i1, j1, k1)) (e7 : m (Str.ofString "i1") = some (.int i1 u1)) (e8 : m (Str.ofString "j1") = some (.int j1 u2)) (e9 : m (Str.ofString "k1") = some (.int k1 u3)) (e10 : m (Str.ofString "non_adjacent") = some (.ref na)) (e11 : (∀ y ∈ [Str.ofString "self", Str.ofString "la", Str.ofString "lb"], m y = m₀ y)) : GfEnd h₀ L na due m₀ s f s'
inductive GfJ (mbl : Addr) (na : Addr) (its : Array Value) (n : Nat) (add : List (Addr × Obj)) (due : List (Int × Int × Int)) (m : Str → Option Value) (t : Nat) (m' : Str → Option Value) (news : List (Addr × Obj)) : Prop
 | mk (ns nn add' i1 j1 k1 u1 u2 u3 : _) (e0 : news = (na, listOf ns nn) :: (mbl, listOf its n) :: add') (e1 : (∀ p ∈ add, p ∈ add')) (e2 : (∀ p ∈ add', p.1 ≠ na)) (e3 : (∀ p ∈ add', p.1 ≠ mbl)) (e4 : T3s add' ns.toList (due.take (t - 1))) (e5 : Cur due t (i1, j1, k1)) (e6 : m' (Str.ofString "i1") = some (.int i1 u1)) (e7 : m' (Str.ofString "j1") = some (.int j1 u2)) (e8 : m' (Str.ofString "k1") = some (.int k1 u3)) (e9 : m' (Str.ofString "non_adjacent") = some (.ref na)) (e10 : m' (Str.ofString "self") = m (Str.ofString "self")) (e11 : m' (Str.ofString "la") = m (Str.ofString "la")) (e12 : m' (Str.ofString "lb") = m (Str.ofString "lb")) : GfJ mbl na its n add due m t m' news
noncomputable section
namespace cgm_for
noncomputable def zP (w : World) (d0 u0 : Nat) (fr0 : Option (List Env)) (gd0 : Option (List Code)) (s : Shared) (h₀ : Heap) (L mbl na : Addr) (its : Array Value) (n : Nat) (add : List (Addr × Obj)) (due : List (Int × Int × Int)) (m : Str → Option Value) (u1 u2 u3 : Tok) : Prop := ∀ (C : Cx w h₀) (F : Fr h₀ L s.heap m) (N : News h₀ L s.heap ((na, listOf #[] 0) :: (mbl, listOf its n) :: add)) (n1 : @Ne Nat mbl na) (ha1 : ∀ p ∈ add, p.1 ≠ na) (ha2 : ∀ p ∈ add, p.1 ≠ mbl) (hM : Ms add its.toList due) (D : DueOk due) (hz : due.length ≤ 4) (m1 : m (Str.ofString "i1") = some (.int 0 u1)) (m2 : m (Str.ofString "j1") = some (.int 0 u2)) (m3 : m (Str.ofString "k1") = some (.int 0 u3)) (m4 : m (Str.ofString "non_adjacent") = some (.ref na)) (m5 : m (Str.ofString "matching_blocks") = some (.ref mbl)), wpAny (model pw w) (Around.deeper { depth := d0, frames := fr0, guards := gd0, units := u0 } (gmEnv L)) (exec (nth gmBody 9) (gmEnv L))
   (GfEnd h₀ L na due m s) (fun _ _ => False) s
noncomputable def zT (x : YY) : Prop := zP (x 1 0) (x 0 1) (x 0 2) (x 10 3) (x 11 4) (x 5 5) (x 2 6) (x 0 7) (x 0 8) (x 0 9) (x 29 10) (x 0 11) (x 7 12) (x 31 13) (x 6 14) (x 0 15) (x 0 16) (x 0 17)
noncomputable def zC := pickY zT
@[irreducible] def w : World := zC 1 0
def d0 : Nat := zC 0 1
def u0 : Nat := zC 0 2
@[irreducible] def fr0 : Option (List Env) := zC 10 3
@[irreducible] def gd0 : Option (List Code) := zC 11 4
@[irreducible] def s : Shared := zC 5 5
@[irreducible] def h₀ : Heap := zC 2 6
def L : Addr := zC 0 7
def mbl : Addr := zC 0 8
def na : Addr := zC 0 9
@[irreducible] def its : Array Value := zC 29 10
def n : Nat := zC 0 11
@[irreducible] def add : List (Addr × Obj) := zC 7 12
@[irreducible] def due : List (Int × Int × Int) := zC 31 13
def m : Str → Option Value := zC 6 14
def u1 : Tok := zC 0 15
def u2 : Tok := zC 0 16
def u3 : Tok := zC 0 17
theorem zA (h : zP w d0 u0 fr0 gd0 s h₀ L mbl na its n add due m u1 u2 u3) : ∀ y, zT y := by with_unfolding_all exact pickY_spec zT h
namespace zB
noncomputable def zQ : {zz : Addr → Obj → (Str → Option Value) → Heap → Nat → (Array Value) → Nat → (List (Addr × Obj)) → Int → Int → Int → Tok → Tok → Tok → Addr → Addr → Tok → Tok → Tok → Int → Int → Int → Prop // (∀ I oI m' h tk ns nn add' i1 j1 k1 u1 u2 u3 a dx ta tb tc xi xj xk, zz I oI m' h tk ns nn add' i1 j1 k1 u1 u2 u3 a dx ta tb tc xi xj xk) → zP w d0 u0 fr0 gd0 s h₀ L mbl na its n add due m u1 u2 u3} := ⟨_, by
 intro zh
 intro C F N n1 ha1 ha2 hM D hz m1 m2 m3 m4 m5
 have hlen : its.size = due.length := by have := All2.length hM; rwa [Array.length_toList] at this
 w_on
 w_strict (
  have X := Cx.X C
  obtain ⟨mg, mb', Tp⟩ := Cx.T C
  show wpAny _ _ (exec (Stmt.For _ _ _ _ _) _) _ _ _
  refine wpAny_For ?_ (by intro _; rfl)
  walk_at "my steps"
  refine' iter_listL (L := L) (its := its) rfl rfl ⟨_, News.get N (by walk_at "my memA"), rfl, _, rfl⟩ (GfJ mbl na its n add due m) F N ?hj ?keep ?hgo ?turn ?done
  case hj => exact ⟨#[], 0, add, 0, 0, 0, u1, u2, u3, rfl, fun _ h => h, ha1, ha2, .nil, .inl ⟨rfl, rfl⟩, m1, m2, m3, m4, rfl, rfl, rfl⟩
  case keep =>
   refine .inr ⟨listOf its n, News.get N (by walk_at "my memA"), ?_⟩
   rintro t m' news ⟨ns, nn, add', i1, j1, k1, u1, u2, u3, rfl, -⟩
   exact .tail _ (.head _)
  case hgo => exact fun _ _ _ _ _ hit q => go_tuple hit q
  case done =>
   rintro m' news h tk ⟨ns, nn, add', i1, j1, k1, u1, u2, u3, rfl, hs, h1, h2, hT, hC, f1, f2, f3, f4, f5, f6, f7⟩ F N
   rw [hlen] at hT hC
   refine ⟨rfl, h, tk, m', ns, nn, add', i1, j1, k1, u1, u2, u3, rfl, F, news_sub N (by walk_at "my sub"), h1, hT, hC, f1, f2, f3, f4, ?_⟩
   intro y hy
   simp only [List.mem_cons, List.not_mem_nil, or_false] at hy
   rcases hy with rfl | rfl | rfl <;> assumption
  case turn =>
   clear m1 m2 m3 m4 F N
   rintro t v I oI m' news h tk hv ⟨ns, nn, add', i1, j1, k1, u1, u2, u3, rfl, hs, h1, h2, hT, hC, f1, f2, f3, f4, f5, f6, f7⟩ hne - F N
   obtain ⟨x, hx, hxM⟩ := hM.getL (by simpa using hv)
   obtain ⟨a, dx, ta, tb, tc, rfl, ham⟩ := hxM
   have hb := cur_bound D hC
   have hxb := D.nn x (List.mem_of_getElem? hx)
   obtain ⟨xi, xj, xk⟩ := x
   dsimp only at hb hxb
   unfold m3 at ham
   have hnz : ns.size ≤ 10 := by
    have := All2.length hT
    rw [Array.length_toList, List.length_take] at this
    lia
   have nIna : na ≠ I := hne.1
   have N0 := news_sub N (news' := (a, matchObj dx #[.int xi ta, .int xj tb, .int xk tc]) :: (I, oI) :: (na, listOf ns nn) :: (mbl, listOf its n) :: add') (List.forall_mem_cons.mpr ⟨.tail _ (.tail _ (.tail _ (hs _ ham))), fun p hp => hp⟩)
   clear N
   have nana : a ≠ na := ha1 _ ham
   clear hxb ham hb Tp mb' mg X hlen m5 hz hM ha2 ha1
   revert C n1 D t hs h1 h2 hT hC f1 f2 f3 f4 f5 f6 f7 hne F hv hx hnz nIna N0 nana
   revert I oI m' h tk ns nn add' i1 j1 k1 u1 u2 u3 a dx ta tb tc xi xj xk
   exact @zh)
 ⟩
noncomputable def zT (x : YY) : Prop := zQ.1 (x 0 0) (x 3 1) (x 6 2) (x 2 3) (x 0 4) (x 29 5) (x 0 6) (x 7 7) (x 8 8) (x 8 9) (x 8 10) (x 0 11) (x 0 12) (x 0 13) (x 0 14) (x 0 15) (x 0 16) (x 0 17) (x 0 18) (x 8 19) (x 8 20) (x 8 21)
noncomputable def zC := pickY zT
def I : Addr := zC 0 0
@[irreducible] def oI : Obj := zC 3 1
def m' : Str → Option Value := zC 6 2
@[irreducible] def h : Heap := zC 2 3
def tk : Nat := zC 0 4
@[irreducible] def ns : Array Value := zC 29 5
def nn : Nat := zC 0 6
@[irreducible] def add' : List (Addr × Obj) := zC 7 7
def i1 : Int := zC 8 8
def j1 : Int := zC 8 9
def k1 : Int := zC 8 10
def u1 : Tok := zC 0 11
def u2 : Tok := zC 0 12
def u3 : Tok := zC 0 13
def a : Addr := zC 0 14
def dx : Addr := zC 0 15
def ta : Tok := zC 0 16
def tb : Tok := zC 0 17
def tc : Tok := zC 0 18
def xi : Int := zC 8 19
def xj : Int := zC 8 20
def xk : Int := zC 8 21
theorem zA (h : zQ.1 I oI m' h tk ns nn add' i1 j1 k1 u1 u2 u3 a dx ta tb tc xi xj xk) : ∀ y, zT y := by with_unfolding_all exact pickY_spec zT h
theorem zK : zQ.1 I oI m' h tk ns nn add' i1 j1 k1 u1 u2 u3 a dx ta tb tc xi xj xk := by
 intro C n1 D t hs h1 h2 hT hC f1 f2 f3 f4 f5 f6 f7 hne F hv hx hnz nIna N0 nana
 w_on
 w_strict (
  have X := Cx.X C
  obtain ⟨mg, mb', Tp⟩ := Cx.T C
  walk_at "my steps"
  refine' unpack_led ?za ?zC ?zF ?zN ?zm ?zb ?zc ?_
  case za => exact rfl
  case zC => walk_at "my cx"
  case zF => walk_at "a"
  walk_at "my nm"
  case zb => exact rfl
  case zc => exact rfl
  intro zh7 zF7 zN7
  k_sweep
  walk_at "my steps"
  ·obtain ⟨ht0, hC'⟩ := cur_adj D hC hx (by walk_at "a") (by walk_at "a")
   subst ht0
   refine' fnext (news' := (na, listOf ns nn) :: (mbl, listOf its n) :: add') (by walk_at "a") (by walk_at "a") ?wj ?ws hne
   case ws => walk_at "my sub"
   case wj =>
    refine' ⟨ns, nn, add', i1, j1, k1 + xk, _, _, _, rfl, hs, h1, h2, hT, hC', ?l1, ?l2, ?l3, ?l4, ?l5, ?l6, ?l7⟩
    case l1 => walk_at "my lookE"
    case l2 => walk_at "my lookE"
    case l3 => walk_at "my lookE"
    case l4 => walk_at "my lookE"
    case l5 => walk_at "my lookE"
    case l6 => walk_at "my lookE"
    case l7 => walk_at "my lookE"
  ·have hp := cur_push hC (by walk_at "a")
   rename _ < _ ∧ _ < _ ∧ _ < _ ∧ _ < _ ∧ _ < _ ∧ _ => l2
   clear l2
   rename _ < _ ∧ _ < _ ∧ _ < _ ∧ _ < _ ∧ _ => l1
   rename News _ _ _ _ => N
   obtain ⟨T, T2, rfl, rfl⟩ := name2 N
   refine' fnext (news' := (na, listOf (ns.push (.ref T2)) (nn + 1)) :: (mbl, listOf its n) :: (T2, _) :: add') (by walk_at "a") N ?wj ?ws ?wn
   case ws => walk_at "my sub"
   case wn =>
    simp only [AllNe]
    exact ⟨hne.1, hne.2.1, Ne.symm (Nat.ne_of_lt l1.2.1), hne.2.2⟩
   case wj =>
    refine' ⟨_, _, _, xi, xj, xk, _, _, _, rfl, fun p hp => .tail _ (hs p hp), List.forall_mem_cons.mpr ⟨Ne.symm (Nat.ne_of_lt l1.2.2.1), h1⟩, List.forall_mem_cons.mpr ⟨Ne.symm (Nat.ne_of_lt l1.2.2.2.1), h2⟩, ?tt, .inr ⟨t, rfl, hx⟩, ?l1, ?l2, ?l3, ?l4, ?l5, ?l6, ?l7⟩
    case tt =>
     rw [Nat.add_sub_cancel, ← hp, Array.toList_push]
     exact (T3s.mono hT fun p hp => .tail _ hp).snoc ⟨T2, _, _, _, rfl, .head _⟩
    case l1 => walk_at "my lookE"
    case l2 => walk_at "my lookE"
    case l3 => walk_at "my lookE"
    case l4 => walk_at "my lookE"
    case l5 => walk_at "my lookE"
    case l6 => walk_at "my lookE"
    case l7 => walk_at "my lookE"
  ·have ht0 := cur_zero D hC (by walk_at "a")
   subst ht0
   refine' fnext (news' := (na, listOf ns nn) :: (mbl, listOf its n) :: add') (by walk_at "a") (by walk_at "a") ?wj ?ws hne
   case ws => walk_at "my sub"
   case wj =>
    refine' ⟨ns, nn, add', xi, xj, xk, _, _, _, rfl, hs, h1, h2, hT, .inr ⟨0, rfl, hx⟩, ?l1, ?l2, ?l3, ?l4, ?l5, ?l6, ?l7⟩
    case l1 => walk_at "my lookE"
    case l2 => walk_at "my lookE"
    case l3 => walk_at "my lookE"
    case l4 => walk_at "my lookE"
    case l5 => walk_at "my lookE"
    case l6 => walk_at "my lookE"
    case l7 => walk_at "my lookE"
  ·have hp := cur_push hC (by walk_at "a")
   rename _ < _ ∧ _ < _ ∧ _ < _ ∧ _ < _ ∧ _ < _ ∧ _ => l2
   clear l2
   rename _ < _ ∧ _ < _ ∧ _ < _ ∧ _ < _ ∧ _ => l1
   rename News _ _ _ _ => N
   obtain ⟨T, T2, rfl, rfl⟩ := name2 N
   refine' fnext (news' := (na, listOf (ns.push (.ref T2)) (nn + 1)) :: (mbl, listOf its n) :: (T2, _) :: add') (by walk_at "a") N ?wj ?ws ?wn
   case ws => walk_at "my sub"
   case wn =>
    simp only [AllNe]
    exact ⟨hne.1, hne.2.1, Ne.symm (Nat.ne_of_lt l1.2.1), hne.2.2⟩
   case wj =>
    refine' ⟨_, _, _, xi, xj, xk, _, _, _, rfl, fun p hp => .tail _ (hs p hp), List.forall_mem_cons.mpr ⟨Ne.symm (Nat.ne_of_lt l1.2.2.1), h1⟩, List.forall_mem_cons.mpr ⟨Ne.symm (Nat.ne_of_lt l1.2.2.2.1), h2⟩, ?tt, .inr ⟨t, rfl, hx⟩, ?l1, ?l2, ?l3, ?l4, ?l5, ?l6, ?l7⟩
    case tt =>
     rw [Nat.add_sub_cancel, ← hp, Array.toList_push]
     exact (T3s.mono hT fun p hp => .tail _ hp).snoc ⟨T2, _, _, _, rfl, .head _⟩
    case l1 => walk_at "my lookE"
    case l2 => walk_at "my lookE"
    case l3 => walk_at "my lookE"
    case l4 => walk_at "my lookE"
    case l5 => walk_at "my lookE"
    case l6 => walk_at "my lookE"
    case l7 => walk_at "my lookE"
  ·have ht0 := cur_zero D hC (by walk_at "a")
   subst ht0
   refine' fnext (news' := (na, listOf ns nn) :: (mbl, listOf its n) :: add') (by walk_at "a") (by walk_at "a") ?wj ?ws hne
   case ws => walk_at "my sub"
   case wj =>
    refine' ⟨ns, nn, add', xi, xj, xk, _, _, _, rfl, hs, h1, h2, hT, .inr ⟨0, rfl, hx⟩, ?l1, ?l2, ?l3, ?l4, ?l5, ?l6, ?l7⟩
    case l1 => walk_at "my lookE"
    case l2 => walk_at "my lookE"
    case l3 => walk_at "my lookE"
    case l4 => walk_at "my lookE"
    case l5 => walk_at "my lookE"
    case l6 => walk_at "my lookE"
    case l7 => walk_at "my lookE")
end zB
theorem zK : zP w d0 u0 fr0 gd0 s h₀ L mbl na its n add due m u1 u2 u3 := zB.zQ.2 fun I oI m' h tk ns nn add' i1 j1 k1 u1 u2 u3 a dx ta tb tc xi xj xk => zB.zA zB.zK (putY [⟨0, I⟩, ⟨3, oI⟩, ⟨6, m'⟩, ⟨2, h⟩, ⟨0, tk⟩, ⟨29, ns⟩, ⟨0, nn⟩, ⟨7, add'⟩, ⟨8, i1⟩, ⟨8, j1⟩, ⟨8, k1⟩, ⟨0, u1⟩, ⟨0, u2⟩, ⟨0, u3⟩, ⟨0, a⟩, ⟨0, dx⟩, ⟨0, ta⟩, ⟨0, tb⟩, ⟨0, tc⟩, ⟨8, xi⟩, ⟨8, xj⟩, ⟨8, xk⟩])
end cgm_for
end
theorem gm_for {w : World} {d0 u0 : Nat} {fr0 : Option (List Env)} {gd0 : Option (List Code)} {s : Shared} {h₀ : Heap} {L mbl na : Addr} {its : Array Value} {n : Nat} {add : List (Addr × Obj)} {due : List (Int × Int × Int)} {m : Str → Option Value} {u1 u2 u3 : Tok} : cgm_for.zP w d0 u0 fr0 gd0 s h₀ L mbl na its n add due m u1 u2 u3 := cgm_for.zA cgm_for.zK (putY [⟨1, w⟩, ⟨0, d0⟩, ⟨0, u0⟩, ⟨10, fr0⟩, ⟨11, gd0⟩, ⟨5, s⟩, ⟨2, h₀⟩, ⟨0, L⟩, ⟨0, mbl⟩, ⟨0, na⟩, ⟨29, its⟩, ⟨0, n⟩, ⟨7, add⟩, ⟨31, due⟩, ⟨6, m⟩, ⟨0, u1⟩, ⟨0, u2⟩, ⟨0, u3⟩])
end
section
theorem cur_done {due : List (Int × Int × Int)} {i1 j1 k1 : Int} (h : DueOk due) (c : Cur due due.length (i1, j1, k1)) : (k1 = 0 → due.take (due.length - 1) = due) ∧ (k1 ≠ 0 → due.take (due.length - 1) ++ [(i1, j1, k1)] = due) := by
 refine ⟨fun e => ?_, fun e => ?_⟩
 ·have := cur_zero h c e
  rw [List.eq_nil_of_length_eq_zero this]; rfl
 ·rw [cur_push c e, List.take_length]
inductive GlEnd (h₀ : Heap) (L na : Addr) (due : List (Int × Int × Int)) (m : Str → Option Value) (s : Shared) (f : Flow) (s' : Shared) : Prop
 | mk (e0 : f = .next) (h tk ns nn add : _) (e1 : s' = { s with heap := h, toks := tk }) (e2 : Fr h₀ L h m) (e3 : News h₀ L h ((na, listOf ns nn) :: add)) (e4 : (∀ p ∈ add, p.1 ≠ na)) (e5 : T3s add ns.toList due) : GlEnd h₀ L na due m s f s'
theorem gm_last {w : World} {d0 u0 : Nat} {fr0 : Option (List Env)} {gd0 : Option (List Code)} {s : Shared} {h₀ : Heap} {L na : Addr} {ns : Array Value} {nn : Nat} {add : List (Addr × Obj)} {due : List (Int × Int × Int)} {m : Str → Option Value} {i1 j1 k1 : Int} {u1 u2 u3 : Tok}
  (C : Cx w h₀) (F : Fr h₀ L s.heap m) (N : News h₀ L s.heap ((na, listOf ns nn) :: add)) (ha1 : ∀ p ∈ add, p.1 ≠ na) (hT : T3s add ns.toList (due.take (due.length - 1))) (hC : Cur due due.length (i1, j1, k1)) (D : DueOk due) (hz : due.length ≤ 4)
  (m1 : m (Str.ofString "i1") = some (.int i1 u1)) (m2 : m (Str.ofString "j1") = some (.int j1 u2)) (m3 : m (Str.ofString "k1") = some (.int k1 u3)) (m4 : m (Str.ofString "non_adjacent") = some (.ref na)) :
  wpAny (model pw w) (Around.deeper { depth := d0, frames := fr0, guards := gd0, units := u0 } (gmEnv L)) (exec (nth gmBody 10) (gmEnv L))
   (GlEnd h₀ L na due m s) (fun _ _ => False) s := by
 have hnz : ns.size ≤ 10 := by
  have := All2.length hT
  rw [Array.length_toList, List.length_take] at this
  exact Nat.le_trans (Nat.le_of_eq this) (Nat.le_trans (Nat.min_le_right _ _) (Nat.le_trans hz (by decide)))
 obtain ⟨c1, c2⟩ := cur_done D hC
 w_on
 w_strict (
  have X := Cx.X C
  obtain ⟨mg, mb', Tp⟩ := Cx.T C
  show wpAny _ _ (exec (Stmt.If _ _ _ _) _) _ _ _
  walk_at "my steps"
  ·rename _ < _ ∧ _ => l1
   rename News _ _ _ _ => N
   obtain ⟨T, rfl⟩ := name_head N
   refine' ⟨rfl, _, _, ns.push (.ref T), _, (T, _) :: add, rfl, by walk_at "a", news_sub N (by walk_at "my sub"), List.forall_mem_cons.mpr ⟨Ne.symm (Nat.ne_of_lt l1.1), ha1⟩, ?_⟩
   rw [← c2 (by walk_at "a"), Array.toList_push]
   exact (T3s.mono hT fun p hp => .tail _ hp).snoc ⟨T, _, _, _, rfl, .head _⟩
  ·refine' ⟨rfl, _, _, ns, nn, add, rfl, by walk_at "a", by walk_at "a", ha1, ?_⟩
   rw [← c1 (by walk_at "a")]; exact hT)
noncomputable def RM (b0 : Heap) (x v : Value) (h : Heap) : Prop := ∃ t y dy a b c, x = .ref t ∧ b0.IsTuple t #[a, b, c] ∧ v = .ref y ∧ b0.get? y = none ∧ h.get? y = some (matchObj dy #[a, b, c])
theorem rm_stable (b0 : Heap) : Stable (RM b0) := by
 rintro x v h h' ⟨t, y, dy, a, b, c, e1, e2, e3, e4, e5⟩ k
 exact ⟨t, y, dy, a, b, c, e1, e2, e3, e4, k y _ (by simp [matchObj]) (by simp [matchObj]) e5⟩
theorem match_map {w : World} {b0 : Heap} {bm : Addr} {items : Array Value} (C : Cx w b0) (hbm : b0.get? bm = some (methodObj (.ref 89) (.ref 135))) (hit : ∀ (i : Nat) (x : Value), items[i]? = some x → ∃ t a b c, x = .ref t ∧ b0.IsTuple t #[a, b, c]) :
  MapCall w 4 b0 (.ref bm) items (RM b0) := by
 intro A i x s R hx K
 obtain ⟨t, a, b, c, rfl, ht⟩ := hit i x hx
 refine mkmk_ (C.keeps K) R (K _ _ hbm) (tuple_at ht K) fun h' tk y dy K' n0 e => ⟨h', tk, rfl, K', t, y, dy, a, b, c, rfl, ht, rfl, none_of_keeps K n0, e⟩
theorem map_led {b0 h' : Heap} {add : List (Addr × Obj)} (hadd : ∀ p ∈ add, b0.get? p.1 = some p.2) : ∀ {xs vs : List Value} {ts : List (Int × Int × Int)}, T3s add xs ts → vs.length = xs.length → (∀ (j : Nat) (v x : Value), vs[j]? = some v → xs[j]? = some x → RM b0 x v h') →
  ∃ led, (∀ p ∈ led, h'.get? p.1 = some p.2 ∧ b0.get? p.1 = none) ∧ Ms led vs ts := by
 intro xs vs ts hT
 induction hT generalizing vs with
 | nil => intro hl _; exact ⟨[], fun _ h => (nomatch h), by rw [List.eq_nil_of_length_eq_zero hl]; exact .nil⟩
 | cons x t xs ts r hT ih =>
  intro hl hR
  cases vs with
  | nil => simp at hl
  | cons v vs =>
   obtain ⟨led, h1, h2⟩ := ih (by simpa using hl) fun j v x e1 e2 => hR (j + 1) v x (by simpa using e1) (by simpa using e2)
   obtain ⟨a, ta, tb, tc, rfl, hm⟩ := r
   obtain ⟨t', y, dy, a', b', c', e1, ⟨o, ho, _, n, hd⟩, rfl, e4, e5⟩ := hR 0 _ _ rfl rfl
   injection e1 with e1
   subst e1
   rw [hadd _ hm] at ho
   cases ho
   injection hd with hd _
   cases hd
   exact ⟨(y, matchObj dy #[.int t.1 ta, .int t.2.1 tb, .int t.2.2 tc]) :: led, List.forall_mem_cons.mpr ⟨⟨e5, e4⟩, h1⟩, .cons _ _ _ _ ⟨y, dy, ta, tb, tc, rfl, .head _⟩ (Ms.mono h2 fun p hp => .tail _ hp)⟩
theorem map_ready {h₀ h : Heap} {L bm T na : Addr} {add : List (Addr × Obj)} {ns : Array Value} {nn : Nat} {ts : List (Int × Int × Int)} {x y z : Int} {ta tb tc : Tok} (N : News h₀ L h ((bm, methodObj (.ref 89) (.ref 135)) :: (T, { cls := .type "tuple", data := .seq #[.int x ta, .int y tb, .int z tc] }) :: (na, listOf (ns.push (.ref T)) (nn + 1)) :: add)) (hT : T3s add ns.toList ts) (hz : ns.size ≤ 10) :
  ∃ add', (ns.push (.ref T)).size ≤ 10000 ∧ T3s add' (ns.push (.ref T)).toList (ts ++ [(x, y, z)]) ∧ (∀ p ∈ add', h.get? p.1 = some p.2) ∧ h.IsList na (ns.push (.ref T)) ∧ h.get? bm = some (methodObj (.ref 89) (.ref 135)) := by
 refine ⟨(T, t3 (x, y, z) ta tb tc) :: add, by rw [Array.size_push]; lia, ?_, fun p hp => (N p ?_).1, ⟨_, (N _ (.tail _ (.tail _ (.head _)))).1, rfl, _, rfl⟩, (N _ (.head _)).1⟩
 ·rw [Array.toList_push]
  exact (T3s.mono hT fun p hp => .tail _ hp).snoc ⟨T, ta, tb, tc, rfl, .head _⟩
 ·rcases List.mem_cons.mp hp with rfl | hp
  ·exact .tail _ (.head _)
  ·exact .tail _ (.tail _ (.tail _ hp))
theorem t3s_items {h : Heap} {add : List (Addr × Obj)} {its : Array Value} {ts : List (Int × Int × Int)} (hT : T3s add its.toList ts) (hadd : ∀ p ∈ add, h.get? p.1 = some p.2) : ∀ (i : Nat) (x : Value), its[i]? = some x → ∃ t a b c, x = .ref t ∧ h.IsTuple t #[a, b, c] := by
 intro i x hx
 obtain ⟨t, _, a, ta, tb, tc, rfl, hm⟩ := hT.getL (k := i) (a := x) (by simpa using hx)
 exact ⟨a, _, _, _, rfl, _, hadd _ hm, rfl, _, rfl⟩
theorem rebase {B b0 h : Heap} {L L' : Addr} {m m' : Str → Option Value} {news inner : List (Addr × Obj)} (F0 : Fr B L b0 m) (N0 : News B L b0 news) (F1 : Fr b0 L' h m') (N1 : News b0 L' h inner) (hL : L' = b0.objs.size) :
  ∃ oL, PyProof.Rows.LCg.NsObj oL m ∧ Fr B L' h m' ∧ News B L' h (inner ++ (L, oL) :: news) ∧ B.objs.size ≤ L ∧ (∀ p ∈ inner, p.1 ≠ L ∧ ∀ q ∈ news, p.1 ≠ q.1) ∧ (∀ q ∈ news, q.1 ≠ L) := by
 obtain ⟨oL, nL, H⟩ := lend F0 N0
 have z : B.objs.size ≤ b0.objs.size := Nat.le_of_lt (Nat.lt_of_le_of_lt F0.above F0.ns.lt)
 have NB := news_base H F1 hL
 have ap : ∀ p ∈ inner, ∀ q ∈ (L, oL) :: news, p.1 ≠ q.1 := fun p hp q hq e => by
  have h1 := (N1 p hp).2.2
  have h2 := (H q hq).1
  rw [e, h2] at h1; cases h1
 refine ⟨oL, nL, fr_base F1 F0.keep z, fun p hp => ?_, F0.above, fun p hp => ⟨ap p hp _ (.head _), fun q hq => ap p hp q (.tail _ hq)⟩, fun q hq => (N0 q hq).2.1⟩
 rcases List.mem_append.mp hp with hp | hp
 ·exact ⟨(N1 p hp).1, (N1 p hp).2.1, none_of_keeps F0.keep (N1 p hp).2.2⟩
 ·exact NB p hp
theorem set_mb (P : Params) (k0 k1 k2 k3 k4 k5 k6 k7 k8 k9 : Tok) (a b : Addr) (mb v : Value) (d jk jp : Addr) (t : Tok) (h : Int) (n : Nat) : (putL (Str.ofString "matching_blocks") h (.str (Str.ofString "matching_blocks") t) v (smDict P k0 k1 k2 k3 k4 k5 k6 k7 k8 k9 a b mb d jk jp), putN (Str.ofString "matching_blocks") (smDict P k0 k1 k2 k3 k4 k5 k6 k7 k8 k9 a b mb d jk jp) n) = (smDict P k0 k1 k2 k3 k4 k5 k6 k7 k8 k9 a b v d jk jp, n) := by
 first | rfl | kernel_rfl
theorem get_mb (P : Params) (k0 k1 k2 k3 k4 k5 k6 k7 k8 k9 : Tok) (a b : Addr) (mb : Value) (d jk jp : Addr) : (getL (Str.ofString "matching_blocks") (smDict P k0 k1 k2 k3 k4 k5 k6 k7 k8 k9 a b mb d jk jp)).isSome = true := by
 first | rfl | kernel_rfl
end
section
theorem name3 {h₀ h : Heap} {L a b c : Addr} {oa ob oc : Obj} {r : List (Addr × Obj)} (_N : News h₀ L h ((a, oa) :: (b, ob) :: (c, oc) :: r)) : ∃ a' b' c', a' = a ∧ b' = b ∧ c' = c := ⟨_, _, _, rfl, rfl, rfl⟩
theorem name4 {h₀ h : Heap} {L a b c d : Addr} {oa ob oc od : Obj} {r : List (Addr × Obj)} (_N : News h₀ L h ((a, oa) :: (b, ob) :: (c, oc) :: (d, od) :: r)) : ∃ a' b' c' d', a' = a ∧ b' = b ∧ c' = c ∧ d' = d := ⟨_, _, _, _, rfl, rfl, rfl, rfl⟩
noncomputable section
namespace cgm_first
noncomputable def zP (w : World) (A : Around) (E : Value → Shared → Prop) (s : Shared) (Q : Value → Shared → Prop) (B : Heap) (L a b x dx jk d : Addr) (m : Str → Option Value) (rest : List (Addr × Obj)) (v0 v1 : List Value) (ka kb n : Nat) (xs ys : List Str) (o oj : Obj) (P : List PlE) (es : List DictEntry) (due : List (Int × Int × Int)) : Prop := ∀ (C : Cx w B) (R : Room A 12) (F0 : Fr B L s.heap m) (N0 : News B L s.heap ((dx, dictOf es n) :: rest)) (hr : ∀ p ∈ rest, p.1 ≠ dx) (hxr : (x, instObj 242 dx) ∈ rest) (la : s.heap.get? a = some (listOf v0.toArray ka)) (lb : s.heap.get? b = some (listOf v1.toArray kb)) (sa : StrsAre v0 xs) (sb : StrsAre v1 ys) (zx : xs.length ≤ 6) (zy : ys.length ≤ 6) (hjk : s.heap.get? jk = some oj) (hd : s.heap.get? d = some o) (hP : ∀ p ∈ ledP P, s.heap.get? p.1 = some p.2) (M : SMat w a b .none ys x dx jk d o P es oj) (Bk : Blks xs ys 0 xs.length 0 ys.length due) (hQ : ∀ h' tk l its kk led es' n', Fr B L h' m → News B L h' ((l, listOf its kk) :: (dx, dictOf es' n') :: (led ++ rest)) → SMat w a b (.ref l) ys x dx jk d o P es' oj → Ms led its.toList (due ++ [((xs.length : Int), (ys.length : Int), 0)]) → Q (.ref l) { s with heap := h', toks := tk }), wpAny (model pw w) A (call (.ref 203) [.ref x]) Q E s
noncomputable def zT (x : YY) : Prop := zP (x 1 0) { depth := (x 0 1), frames := (x 10 2), guards := (x 11 3), units := (x 0 4) } (x 9 5) (x 5 6) (x 9 7) (x 2 8) (x 0 9) (x 0 10) (x 0 11) (x 0 12) (x 0 13) (x 0 14) (x 0 15) (x 6 16) (x 7 17) (x 4 18) (x 4 19) (x 0 20) (x 0 21) (x 0 22) (x 13 23) (x 13 24) (x 3 25) (x 3 26) (x 37 27) (x 39 28) (x 31 29)
noncomputable def zC := pickY zT
@[irreducible] def w : World := zC 1 0
def d0 : Nat := zC 0 1
@[irreducible] def fr0 : Option (List Env) := zC 10 2
@[irreducible] def gd0 : Option (List Code) := zC 11 3
def u0 : Nat := zC 0 4
@[irreducible] def E : Value → Shared → Prop := zC 9 5
@[irreducible] def s : Shared := zC 5 6
@[irreducible] def Q : Value → Shared → Prop := zC 9 7
@[irreducible] def B : Heap := zC 2 8
def L : Addr := zC 0 9
def a : Addr := zC 0 10
def b : Addr := zC 0 11
def x : Addr := zC 0 12
def dx : Addr := zC 0 13
def jk : Addr := zC 0 14
def d : Addr := zC 0 15
def m : Str → Option Value := zC 6 16
@[irreducible] def rest : List (Addr × Obj) := zC 7 17
@[irreducible] def v0 : List Value := zC 4 18
@[irreducible] def v1 : List Value := zC 4 19
def ka : Nat := zC 0 20
def kb : Nat := zC 0 21
def n : Nat := zC 0 22
@[irreducible] def xs : List Str := zC 13 23
@[irreducible] def ys : List Str := zC 13 24
@[irreducible] def o : Obj := zC 3 25
@[irreducible] def oj : Obj := zC 3 26
@[irreducible] def P : List PlE := zC 37 27
@[irreducible] def es : List DictEntry := zC 39 28
@[irreducible] def due : List (Int × Int × Int) := zC 31 29
theorem zA (h : zP w { depth := d0, frames := fr0, guards := gd0, units := u0 } E s Q B L a b x dx jk d m rest v0 v1 ka kb n xs ys o oj P es due) : ∀ y, zT y := by with_unfolding_all exact pickY_spec zT h
theorem zK : zP w { depth := d0, frames := fr0, guards := gd0, units := u0 } E s Q B L a b x dx jk d m rest v0 v1 ka kb n xs ys o oj P es due := by
 intro C R F0 N0 hr hxr la lb sa sb zx zy hjk hd hP M Bk hQ
 have hx := (N0 _ (.tail _ hxr)).1
 have hdx := (N0 _ (.head _)).1
 have I0 := sm_inst hx hdx
 obtain ⟨k0, k1, k2, k3, k4, k5, k6, k7, k8, k9, jp, hes⟩ := M.dict
 have Cs := C.keeps F0.keep
 have D := due_ok zx zy Bk
 have dz := due_few zx zy Bk
 rw [hes] at I0
 simp only [smDict] at I0
 w_on
 w_strict (
  (rename Room _ _ => R0); refine wpAny_call ?_
  refine' enter [(Str.ofString "self", .ref x)] Cs ?k6 ?k7 ?k8 ?k9 ?kB ?_ ?c2 ?c3 ?c4 ?c5
  case k6 => k_is
  case k7 => k_is
  case k8 => assumption
  case k9 => walk_at "my binds"
  case c5 => decide
  case kB => exact locs rfl
  case c2 => exact rfl
  case c3 => exact rfl
  case c4 => exact rfl
  intro h1 F N RR
  have X := Cx.X Cs
  obtain ⟨mg, mb, T⟩ := Cx.T Cs
  try dsimp only
  repeat' ((fail_if_success with_reducible show wpAny _ _ (call (Value.builtin "len") _) _ _ _); walk_at "my step1")
  iterate 2
   refine' len_base ?za ?zb ?zc ?zd ?_
   case za => walk_at "a"
   case zb => walk_at "a"
   case zc => walk_at "a"
   case zd => walk_at "a"
   repeat' ((fail_if_success with_reducible show wpAny _ _ (call (Value.builtin "len") _) _ _ _); walk_at "my step1")
  walk_at "my steps"
  rename Fr _ _ _ _ => F
  rename News _ _ _ _ => N
  rename _ < _ ∧ _ < _ ∧ _ < _ => l2
  rename _ < _ ∧ _ < _ => l1
  obtain ⟨mbl, q, T1, T0, rfl, rfl, rfl, rfl⟩ := name4 N
  refine' cut_exec (gm_while (due := due) Cs (Room.le RR (by decide)) F la lb sa sb zx zy hx hdx hjk hd hP M (news_sub N (by walk_at "my sub")) (Ne.symm (Nat.ne_of_lt l2.1)) (Ne.symm (Nat.ne_of_lt l2.2.1)) (Ne.symm (Nat.ne_of_lt l1.1)) Bk dz ?q1 ?q2 ?q3) ?_
  case q1 => walk_at "my look"
  case q2 => walk_at "my look"
  case q3 => walk_at "my look"
  have Fla := F
  clear N l1 l2
  rintro f s' ⟨rfl, h2, tk2, m2, its, nn, add, Mt, rfl, F, N, ha, hM, hp, f3, hE⟩
  have g1 : m2 (Str.ofString "self") = some (.ref x) := (hE _ (by simp)).trans (by walk_at "my look")
  have g2 : m2 (Str.ofString "la") = some (.int xs.length _) := (hE _ (by simp)).trans (by walk_at "my look")
  have g4 : m2 (Str.ofString "lb") = some (.int ys.length _) := (hE _ (by simp)).trans (by walk_at "my look")
  clear hE Fla
  repeat' ((fail_if_success with_reducible show wpAny _ _ (exec (Stmt.If (Expr.Name _ _) _ _ _) _) _ _ _); (fail_if_success with_reducible show wpAny _ _ (call (Value.builtin "list.sort") _) _ _ _); (fail_if_success with_reducible show wpAny _ _ (call (Value.type "map") _) _ _ _); (fail_if_success with_reducible show wpAny _ _ (setAttr _ _ _) _ _ _); walk_at "my step1")
  rename Fr _ _ _ _ => F
  rename News _ _ _ _ => N
  refine' sort_matches (nn := 6) Cs (Room.le RR (by decide)) F N ha hM hp (due_sorted D) dz ?_
  clear F N hM hp its nn
  intro h3 its nn F N hM
  repeat' ((fail_if_success with_reducible show wpAny _ _ (exec (Stmt.If (Expr.Name _ _) _ _ _) _) _ _ _); (fail_if_success with_reducible show wpAny _ _ (call (Value.builtin "list.sort") _) _ _ _); (fail_if_success with_reducible show wpAny _ _ (call (Value.type "map") _) _ _ _); (fail_if_success with_reducible show wpAny _ _ (setAttr _ _ _) _ _ _); walk_at "my step1")
  rename Fr _ _ _ _ => F
  rename News _ _ _ _ => N
  rename _ < _ ∧ PySem.W.AllLt _ _ => l3
  obtain ⟨na, mbl', rfl, rfl⟩ := name2 N
  have hna : ∀ p ∈ add, p.1 ≠ na := fun p hp => Nat.ne_of_lt (allLt_mem l3.2 p hp)
  refine' cut_exec (gm_for Cs F N (Nat.ne_of_lt l3.1) hna ha hM D dz ?q1 ?q2 ?q3 ?q4 ?q5) ?_
  case q1 => walk_at "my look"
  case q2 => walk_at "my look"
  case q3 => walk_at "my look"
  case q4 => walk_at "my look"
  case q5 => walk_at "my look"
  clear N hM l3 hna ha
  rintro f s' ⟨rfl, h4, tk4, m3, ns, nn, add1, z1, z2, z3, w1, w2, w3, rfl, F', N, ha1, hT, hCur, f4, f5, f6, f7, hE⟩
  have e1 : m3 (Str.ofString "self") = some (.ref x) := (hE _ (by simp)).trans (by walk_at "my look")
  have e2 : m3 (Str.ofString "la") = some (.int xs.length _) := (hE _ (by simp)).trans (by walk_at "my look")
  have e4 : m3 (Str.ofString "lb") = some (.int ys.length _) := (hE _ (by simp)).trans (by walk_at "my look")
  clear hE F f3 g1 g2 g4
  repeat' ((fail_if_success with_reducible show wpAny _ _ (exec (Stmt.If (Expr.Name _ _) _ _ _) _) _ _ _); (fail_if_success with_reducible show wpAny _ _ (call (Value.builtin "list.sort") _) _ _ _); (fail_if_success with_reducible show wpAny _ _ (call (Value.type "map") _) _ _ _); (fail_if_success with_reducible show wpAny _ _ (setAttr _ _ _) _ _ _); walk_at "my step1")
  rename Fr _ _ _ _ => F
  rename News _ _ _ _ => N
  refine' cut_exec (gm_last Cs F N ha1 hT hCur D dz f4 f5 f6 f7) ?_
  clear F N hT hCur ha1
  rintro f s' ⟨rfl, h5, tk5, ns, nn, add2, rfl, F, N, ha2, hT⟩
  have hnz : ns.size ≤ 10 := by
   have := All2.length hT
   rw [Array.length_toList] at this
   (first | lia | omega)
  repeat' ((fail_if_success with_reducible show wpAny _ _ (exec (Stmt.If (Expr.Name _ _) _ _ _) _) _ _ _); (fail_if_success with_reducible show wpAny _ _ (call (Value.builtin "list.sort") _) _ _ _); (fail_if_success with_reducible show wpAny _ _ (call (Value.type "map") _) _ _ _); (fail_if_success with_reducible show wpAny _ _ (setAttr _ _ _) _ _ _); walk_at "my step1")
  rename Fr _ _ _ _ => F
  rename News _ _ _ _ => N
  obtain ⟨addm, hz2, hT2, hadd, hlist, hbm⟩ := map_ready N hT hnz
  refine call_map hlist ?_
  walk_at "my steps"
  refine' call_list_map (n := 4) (R := RM _) (Room.le RR (by decide)) (rm_stable _) hz2 (mapOk_new hlist) (match_map (Cx.keeps Cs (Fr.keep F)) hbm (t3s_items hT2 hadd)) ?_
  intro h6 tk6 res c6 hD K6 hl6 hR6
  obtain ⟨led, hled, hMs⟩ := map_led hadd hT2 (by rw [hl6, Array.length_toList]) (fun j v x e1 e2 => hR6 j v x e1 (by rw [Array.getElem?_toList] at e2; exact e2))
  obtain ⟨F1, N1⟩ := news_join F N K6 ((_, listOf res.toArray c6) :: led) (List.forall_mem_cons.mpr ⟨⟨hD, none_size (mapHeap_keeps _ _ _)⟩, hled⟩)
  clear F N
  repeat' ((fail_if_success with_reducible show wpAny _ _ (exec (Stmt.If (Expr.Name _ _) _ _ _) _) _ _ _); (fail_if_success with_reducible show wpAny _ _ (call (Value.builtin "list.sort") _) _ _ _); (fail_if_success with_reducible show wpAny _ _ (call (Value.type "map") _) _ _ _); (fail_if_success with_reducible show wpAny _ _ (setAttr _ _ _) _ _ _); walk_at "my step1")
  obtain ⟨oL, nL, F2, N2, hz, hap, hnl⟩ := rebase F0 N0 F1 (news_sub N1 (fun p hp => List.mem_append_left _ hp)) rfl
  clear F1 N1
  have N3 := news_sub N2 (news' := (dx, dictOf es n) :: (((_, listOf res.toArray c6) :: led) ++ (L, oL) :: rest)) (fun p hp => by
   rcases List.mem_cons.mp hp with rfl | hp
   ·exact List.mem_append_right _ (.tail _ (.head _))
   ·rcases List.mem_append.mp hp with hp | hp
    ·exact List.mem_append_left _ hp
    ·rcases List.mem_cons.mp hp with rfl | hp
     ·exact List.mem_append_right _ (.head _)
     ·exact List.mem_append_right _ (.tail _ (.tail _ hp)))
  have hdl : ∀ p ∈ (((_, listOf res.toArray c6) :: led) ++ (L, oL) :: rest), p.1 ≠ dx := fun p hp => by
   rcases List.mem_append.mp hp with hp | hp
   ·exact (hap p hp).2 _ (.head _)
   ·rcases List.mem_cons.mp hp with rfl | hp
    ·exact Ne.symm (N0 _ (.head _)).2.1
    ·exact hr p hp
  clear N2
  rw [hes] at N3
  have I3 := sm_inst (N3 _ (.tail _ (List.mem_append_right _ (.tail _ hxr)))).1 (N3 _ (.head _)).1
  refine' set_dict F2 C.X N3 I3 rfl ?k6 ?k7 ?k8 ?k9 (get_mb _ _ _ _ _ _ _ _ _ _ _ _ _ _ _ _ _) (set_mb _ _ _ _ _ _ _ _ _ _ _ _ _ _ _ _ _ _ _ _ _) (.head hdl) ?k13 ?_
  case k6 => k_is
  case k7 => k_is
  case k8 => k_is
  case k9 => k_is
  case k13 => exact Nat.le_of_ble_eq_true rfl
  clear F2 N3 I3
  intro h7 F N
  have N4 := news_sub N (news' := (x, instObj 242 dx) :: (dx, dictOf (smDict w.params k0 k1 k2 k3 k4 k5 k6 k7 k8 k9 a b (.ref _) d jk jp) n) :: (((_, listOf res.toArray c6) :: led) ++ (L, oL) :: rest)) (List.forall_mem_cons.mpr ⟨.tail _ (List.mem_append_right _ (.tail _ hxr)), fun p hp => hp⟩)
  clear N
  simp only [smDict, List.cons_append] at N4
  clear X T I0 mg mb
  have X := Cx.X C
  obtain ⟨mg, mb, T⟩ := Cx.T C
  walk_at "my steps"
  rename Fr _ _ _ _ => F
  rename News _ _ _ _ => N5
  obtain ⟨F6, N6⟩ := back hz nL F (news_sub (news' := (L, oL) :: (_, listOf res.toArray c6) :: (dx, dictOf (smDict w.params k0 k1 k2 k3 k4 k5 k6 k7 k8 k9 a b (.ref _) d jk jp) n) :: (led ++ rest)) N5 (fun p hp => by
   rcases List.mem_cons.mp hp with rfl | hp
   ·exact .tail _ (.tail _ (.tail _ (List.mem_append_right _ (.head _))))
   ·rcases List.mem_cons.mp hp with rfl | hp
    ·exact .tail _ (.tail _ (.head _))
    ·rcases List.mem_cons.mp hp with rfl | hp
     ·exact .tail _ (.head _)
     ·rcases List.mem_append.mp hp with hp | hp
      ·exact .tail _ (.tail _ (.tail _ (List.mem_append_left _ hp)))
      ·exact .tail _ (.tail _ (.tail _ (List.mem_append_right _ (.tail _ hp)))))) (List.forall_mem_cons.mpr ⟨(hap _ (.head _)).1, List.forall_mem_cons.mpr ⟨(N0 _ (.head _)).2.1, fun p hp => (List.mem_append.mp hp).elim (fun z => (hap p (.tail _ z)).1) (fun z => (N0 p (.tail _ z)).2.1)⟩⟩)
  exact hQ _ _ _ res.toArray c6 led _ n F6 N6 ⟨⟨k0, k1, k2, k3, k4, k5, k6, k7, k8, k9, jp, rfl⟩, M.junk, M.b2j, M.inv, M.low⟩ hMs)
end cgm_first
end
theorem gm_first {w : World} {A : Around} {E : Value → Shared → Prop} {s : Shared} {Q : Value → Shared → Prop} {B : Heap} {L a b x dx jk d : Addr} {m : Str → Option Value} {rest : List (Addr × Obj)} {v0 v1 : List Value} {ka kb n : Nat} {xs ys : List Str} {o oj : Obj} {P : List PlE} {es : List DictEntry} {due : List (Int × Int × Int)} : cgm_first.zP w A E s Q B L a b x dx jk d m rest v0 v1 ka kb n xs ys o oj P es due := by
 intro C R
 obtain ⟨hd0, d0, fr0, gd0, u0⟩ := A
 have hh0 := Room.handled R
 dsimp only at hh0
 subst hh0
 exact cgm_first.zA cgm_first.zK (putY [⟨1, w⟩, ⟨0, d0⟩, ⟨10, fr0⟩, ⟨11, gd0⟩, ⟨0, u0⟩, ⟨9, E⟩, ⟨5, s⟩, ⟨9, Q⟩, ⟨2, B⟩, ⟨0, L⟩, ⟨0, a⟩, ⟨0, b⟩, ⟨0, x⟩, ⟨0, dx⟩, ⟨0, jk⟩, ⟨0, d⟩, ⟨6, m⟩, ⟨7, rest⟩, ⟨4, v0⟩, ⟨4, v1⟩, ⟨0, ka⟩, ⟨0, kb⟩, ⟨0, n⟩, ⟨13, xs⟩, ⟨13, ys⟩, ⟨3, o⟩, ⟨3, oj⟩, ⟨37, P⟩, ⟨39, es⟩, ⟨31, due⟩]) C R
end
section
theorem gm_again {w : World} {A : Around} {E : Value → Shared → Prop} {s : Shared} {Q : Value → Shared → Prop} {a b x dx jk d l : Addr} {n : Nat} {ys : List Str} {o oj : Obj} {P : List PlE} {es : List DictEntry}
  (C : Cx w s.heap) (R : Room A 6) (hx : s.heap.get? x = some (instObj 242 dx)) (hdx : s.heap.get? dx = some (dictOf es n)) (M : SMat w a b (.ref l) ys x dx jk d o P es oj)
  (hQ : ∀ h' tk, Keeps s.heap h' → Q (.ref l) { s with heap := h', toks := tk }) :
  wpAny (model pw w) A (call (.ref 203) [.ref x]) Q E s := by
 have I0 := sm_inst hx hdx
 obtain ⟨k0, k1, k2, k3, k4, k5, k6, k7, k8, k9, jp, rfl⟩ := M.dict
 simp only [smDict] at I0
 w_on
 w_strict (
  ((rename Room _ _ => R0); (rename Around => A0); (obtain ⟨hd0, d0, fr0, gd0, u0⟩ := A0); (have hh0 := Room.handled R0); (dsimp only at hh0); (subst hh0); refine wpAny_call ?_)
  refine' enter [(Str.ofString "self", .ref x)] ?k1 ?k6 ?k7 ?k8 ?k9 ?kB ?_ ?c2 ?c3 ?c4 ?c5
  ( k_dflt ((case k1 => assumption); (case k6 => k_is); (case k7 => k_is); (case k8 => assumption); (case k9 => walk_at "my binds"); (case c5 => decide); (case kB => exact locs rfl); (case c2 => exact rfl); (case c3 => exact rfl); (case c4 => exact rfl); intro h' F' N' R'; (try dsimp only at F'); (try dsimp only)); have X := Cx.X (by assumption); obtain ⟨mg, mb, T⟩ := Cx.T (by assumption))
  walk_at "my steps"
  exact hQ _ _ (Fr.keep (by assumption)))
end
section
noncomputable def lamOf : Stmt → Expr
 | .If (.Compare _ _ [.Call _ _ [k] ..] ..) .. => k.value
 | _ => .Tuple [] 0 default
noncomputable def lam3 : Expr → Arguments × Expr × Scope
 | .Lambda p b s .. => (p, b, s)
 | e => (default, e, default)
noncomputable def lamP (e : Expr) : Arguments := (lam3 e).1
noncomputable def lamB (e : Expr) : Expr := (lam3 e).2.1
noncomputable def lamS (e : Expr) : Scope := (lam3 e).2.2
noncomputable abbrev lamE : Expr := lamOf (nth (bodyOf (nth pw.main.body 29)) 6)
noncomputable def key3 (x : Int × Int × Int) : Int × Int × Int := (-x.2.2, x.1, x.2.1)
theorem key_call {w : World} {A : Around} {s : Shared} {name qual : Str} {pm ctv : Value} {c' f a : Addr} {x : Int × Int × Int} {ta tb tc : Tok}
  (C : Cx w s.heap) (R : Room A 3) (ho : s.heap.get? f = some (kla_obj name qual (lamP lamE) (lamB lamE) (lamS lamE) [] pm c' ctv)) (hcd : s.heap.CodeRec (.ref c') qual) (hT : s.heap.IsTuple a #[.int x.1 ta, .int x.2.1 tb, .int x.2.2 tc]) :
  wpAny (model pw w) A (call (.ref f) [.ref a]) (KeyEnd (key3 x) s) (fun _ _ => False) s := by
 w_on
 w_strict (
  refine wpAny_call ?_
  refine' enterL [(Str.ofString "block", .ref a)] C ho hcd R ?hb ?hl ?_ ?c1 ?c2 ?c3 ?c4
  case hb => exact rfl
  case hl => exact locs rfl
  case c1 => exact rfl
  case c2 => exact rfl
  case c3 => exact rfl
  case c4 => decide
  intro h1 F N R
  have X := Cx.X C
  obtain ⟨mg, mb, T⟩ := Cx.T C
  show wpAny _ _ (eval (.Tuple [_, _, _] _ _) _) _ _ _
  walk_at "my steps"
  exact ⟨_, _, _, rfl, rfl, Fr.keep (by assumption), _, _, _, News.get (by assumption) (.head _)⟩)
theorem least_best {A B : List Str} {k i j : Nat} {due : List (Int × Int × Int)} {x : Int × Int × Int} (BD : Blks A B 0 A.length 0 B.length due) (HB : IsBest A B 0 A.length 0 B.length k i j) (hx : x ∈ (0, 0, 0) :: due)
  (hl : ∀ y ∈ (0, 0, 0) :: due, lt3 (key3 y) (key3 x) = false) : x = ((i : Int), (j : Int), (k : Int)) := by
 obtain ⟨a1, a2, a3, a4, a5, a6, a7⟩ := id HB
 have none : k = 0 → due = [] → x = ((i : Int), (j : Int), (k : Int)) := fun hk hd => by
  subst hd
  obtain ⟨e1, e2⟩ := a6 hk
  rw [List.mem_singleton.mp hx, e1, e2, hk]; rfl
 by_cases hz : 0 < A.length ∧ 0 < B.length
 ·obtain ⟨o1, o2⟩ := blks_open BD HB hz.1 hz.2
  by_cases hk : k = 0
  ·exact none hk (o1 hk)
  ·obtain ⟨l1, l2, e, _, _⟩ := o2 (by lia)
   have hm : ((i : Int), (j : Int), (k : Int)) ∈ (0, 0, 0) :: due := by rw [e]; simp
   have h1 := hl _ hm
   have hx' : x ∈ due := by
    rcases List.mem_cons.mp hx with rfl | h
    ·rw [lt3_not] at h1; simp only [key3] at h1; lia
    ·exact h
   obtain ⟨i', j', k', rfl, hk', b1, b2, b3, b4, b5⟩ := (blks_facts BD).1 x hx'
   have h2 := a7 k' i' j' hk' b1 b2 b3 b4 b5
   have e : ((-(k : Int)), (i : Int), (j : Int)) = (-(k' : Int), (i' : Int), (j' : Int)) := lt3_eq h1 h2
   have e1 : -(k : Int) = -(k' : Int) := congrArg (fun z => z.1) e
   have e2 : (i : Int) = i' := congrArg (fun z => z.2.1) e
   have e3 : (j : Int) = j' := congrArg (fun z => z.2.2) e
   rw [e2, e3, Int.neg_inj.mp e1]
 ·have hd : due = [] := by cases BD with
   | empty => rfl
   | none => rfl
   | step _ _ _ _ _ _ _ _ _ q1 q2 => exact absurd ⟨q1, q2⟩ hz
  refine none (by lia) hd
theorem min_due {w : World} {A : Around} {E : Value → Shared → Prop} {s : Shared} {h₀ : Heap} {L D t0 f c' : Addr} {m : Str → Option Value} {news led : List (Addr × Obj)} {dits : Array Value} {kk : Nat} {due : List (Int × Int × Int)} {u0 u1 u2 : Tok} {name qual : Str} {pm ctv : Value} {oc : Obj} {vs : Array Value} {tq : Tok} {As Bs : List Str} {k i j : Nat} {Q : Value → Shared → Prop}
  (C : Cx w h₀) (R : Room A 6) (hh : A.handled = none) (F : Fr h₀ L s.heap m) (N : News h₀ L s.heap news) (hD : (D, listOf ([Value.ref t0] ++ dits.toList).toArray kk) ∈ news) (h0 : (t0, t3 (0, 0, 0) u0 u1 u2) ∈ news) (hs : ∀ p ∈ led, p ∈ news) (TD : T3s led dits.toList due)
  (BD : Blks As Bs 0 As.length 0 Bs.length due) (HB : IsBest As Bs 0 As.length 0 Bs.length k i j) (hf : (f, kla_obj name qual (lamP lamE) (lamB lamE) (lamS lamE) [] pm c' ctv) ∈ news) (hc : (c', oc) ∈ news) (d1 : oc.data = .fields vs) (d2 : vs[1]? = some (.str qual tq))
  (hQ : ∀ h' tk a ta tb tc, Fr h₀ L h' m → News h₀ L h' news → (a, t3 ((i : Int), (j : Int), (k : Int)) ta tb tc) ∈ news → Q (.ref a) { s with heap := h', toks := tk }) :
  wpAny (model pw w) A (call (.builtin "min") [.ref D] [(Str.ofString "key", .ref f)]) Q E s := by
 have T : All2 (fun v x => ∃ a ta tb tc, v = .ref a ∧ (a, t3 x ta tb tc) ∈ news) ([Value.ref t0] ++ dits.toList) ((0, 0, 0) :: due) :=
  .cons _ _ _ _ ⟨_, _, _, _, rfl, h0⟩ (All2.mono TD fun v x ⟨a, ta, tb, tc, e, hm⟩ => ⟨a, ta, tb, tc, e, hs _ hm⟩)
 refine min3_key (key := key3) hh R ⟨_, N.get hD, rfl, _, rfl⟩ (by simp) (All2.length T) ?_ ?_
 ·intro i' v x hv hx h tk K
  obtain ⟨x', hx', a, ta, tb, tc, rfl, hm⟩ := All2.getL T hv
  rw [hx] at hx'; cases hx'
  exact key_call (s := { s with heap := h, toks := tk }) (C.keeps fun b o e => K b o (F.keep b o e)) (Room.le (Room.in1 R) (by decide)) (K _ _ (N.get hf)) ⟨_, _, _, _, rfl, K _ _ (N.get hc), d1, d2⟩ ⟨_, K _ _ (N.get hm), rfl, _, rfl⟩
 ·intro i' v x h' tk hv hx hl K
  obtain ⟨x', hx', a, ta, tb, tc, rfl, hm⟩ := All2.getL T hv
  rw [hx] at hx'; cases hx'
  have e := least_best BD HB (List.mem_of_getElem? hx) hl
  subst e
  exact hQ h' tk a ta tb tc (fr_keeps F K) (news_keeps N K) hm
end
section
noncomputable abbrev lawEnv (L : Addr) : Env := envOf (Str.ofString "law") (fScope (nth pw.main.body 29)) L 397 (Value.ref 396)
noncomputable abbrev lawBody : List Stmt := bodyOf (nth pw.main.body 29)
noncomputable def LawEnd (h₀ : Heap) (s : Shared) (f : Flow) (s' : Shared) : Prop := f = .ret (.bool true) ∧ ∃ h tk ps, s' = { s with heap := h, toks := tk } ∧ Keeps h₀ h ∧ h.get? 394 = some (tabObj ps)
noncomputable def ledC (x dx jk dd d fa lb : Addr) (n dn : Nat) (es : List DictEntry) (dits : Array Value) (va vb : List Value) (oj o : Obj) (P : List PlE) (led : List (Addr × Obj)) : List (Addr × Obj) :=
 (x, instObj 242 dx) :: (d, listOf dits dn) :: (fa, LCg.lst va) :: (lb, LCg.lst vb) :: ((jk, oj) :: (dd, o) :: (ledP P ++ led))
theorem told_due2 {w : World} {A : Around} {E : Value → Shared → Prop} {s : Shared} {h₀ : Heap} {L l b t : Addr} {m : Str → Option Value} {news ledM led : List (Addr × Obj)} {its dits : Array Value} {n n2 nn : Nat} {due : List (Int × Int × Int)} {y : Int × Int × Int} {u1 u2 u3 : Tok} {Q : Value → Shared → Prop} (C : Cx w h₀) (R : Room A (nn + 2)) (F : Fr h₀ L s.heap m) (N : News h₀ L s.heap news) (hl : (l, listOf its n) ∈ news) (hb : (b, listOf (dits.toList ++ [Value.ref t]).toArray n2) ∈ news)
  (ht : (t, t3 y u1 u2 u3) ∈ news) (TM : Ms ledM its.toList (due ++ [y])) (TD : T3s led dits.toList due) (hM : ∀ p ∈ ledM, p ∈ news) (hT : ∀ p ∈ led, p ∈ news) (h : Q (.bool true) s) : wpAny (model pw w) A (compareOp .Eq (.ref l) (.ref b)) Q E s :=
 told_due (led := (t, t3 y u1 u2 u3) :: led) C R F N hl hb TM ((T3s.mono TD fun p hp => .tail _ hp).snoc ⟨t, u1, u2, u3, rfl, .head _⟩) hM (fun p hp => by
  rcases List.mem_cons.mp hp with rfl | hp
  ·exact ht
  ·exact hT _ hp) h
noncomputable section
namespace claw_d
noncomputable def zP (w : World) (s : Shared) (h₀ : Heap) (L fa lb x dx jk dd d : Addr) (m : Str → Option Value) (va vb : List Value) (n dn : Nat) (dits : Array Value) (xs ys : List Str) (P : List PlE) (o : Obj) (led : List (Addr × Obj)) (due : List (Int × Int × Int)) (ps : Array Value) : Prop := ∀ {es : List DictEntry} {oj : Obj} (C : Cx w h₀) (R : Room (callerA.deeper (lawEnv L)) 30) (F : Fr h₀ L s.heap m) (N : News h₀ L s.heap ((dx, dictOf es n) :: (394, tabObj ps) :: ledC x dx jk dd d fa lb n dn es dits va vb oj o P led)) (nd : ∀ p ∈ (394, tabObj ps) :: ledC x dx jk dd d fa lb n dn es dits va vb oj o P led, p.1 ≠ dx) (M : SMat w fa lb .none ys x dx jk dd o P es oj) (TD : T3s led dits.toList due) (BD : Blks xs ys 0 xs.length 0 ys.length due) (zd : due.length ≤ 6) (sa : StrsAre va xs) (sb : StrsAre vb ys) (zx : xs.length ≤ 6) (zy : ys.length ≤ 6) (m2 : m (Str.ofString "first") = some (.ref fa)) (m3 : m (Str.ofString "last") = some (.ref lb)) (m4 : m (Str.ofString "due") = some (.ref d)) (m5 : m (Str.ofString "matcher") = some (.ref x)), wpAny (model pw w) (callerA.deeper (lawEnv L)) (execs (lawBody.drop 7) (lawEnv L)) (LawEnd h₀ s) (fun _ _ => False) s
noncomputable def zT (x : YY) : Prop := zP (x 1 0) (x 5 1) (x 2 2) (x 0 3) (x 0 4) (x 0 5) (x 0 6) (x 0 7) (x 0 8) (x 0 9) (x 0 10) (x 6 11) (x 4 12) (x 4 13) (x 0 14) (x 0 15) (x 29 16) (x 13 17) (x 13 18) (x 37 19) (x 3 20) (x 7 21) (x 31 22) (x 29 23)
noncomputable def zC := pickY zT
@[irreducible] def w : World := zC 1 0
@[irreducible] def s : Shared := zC 5 1
@[irreducible] def h₀ : Heap := zC 2 2
def L : Addr := zC 0 3
def fa : Addr := zC 0 4
def lb : Addr := zC 0 5
def x : Addr := zC 0 6
def dx : Addr := zC 0 7
def jk : Addr := zC 0 8
def dd : Addr := zC 0 9
def d : Addr := zC 0 10
def m : Str → Option Value := zC 6 11
@[irreducible] def va : List Value := zC 4 12
@[irreducible] def vb : List Value := zC 4 13
def n : Nat := zC 0 14
def dn : Nat := zC 0 15
@[irreducible] def dits : Array Value := zC 29 16
@[irreducible] def xs : List Str := zC 13 17
@[irreducible] def ys : List Str := zC 13 18
@[irreducible] def P : List PlE := zC 37 19
@[irreducible] def o : Obj := zC 3 20
@[irreducible] def led : List (Addr × Obj) := zC 7 21
@[irreducible] def due : List (Int × Int × Int) := zC 31 22
@[irreducible] def ps : Array Value := zC 29 23
theorem zA (h : zP w s h₀ L fa lb x dx jk dd d m va vb n dn dits xs ys P o led due ps) : ∀ y, zT y := by with_unfolding_all exact pickY_spec zT h
namespace zB
noncomputable def zQ : {zz : Obj → Heap → Nat → Addr → (Array Value) → Nat → (List (Addr × Obj)) → Nat → Tok → Tok → Tok → Tok → Tok → Tok → Tok → Tok → Tok → Tok → Addr → Prop // (∀ oj h1 tk1 l its kk ledM n1 q0 q1 q2 q3 q4 q5 q6 q7 q8 q9 jp1, zz oj h1 tk1 l its kk ledM n1 q0 q1 q2 q3 q4 q5 q6 q7 q8 q9 jp1) → zP w s h₀ L fa lb x dx jk dd d m va vb n dn dits xs ys P o led due ps} := ⟨_, by
 intro zh
 intro es oj C R F N nd M TD BD zd sa sb zx zy m2 m3 m4 m5
 obtain ⟨k0, k1, k2, k3, k4, k5, k6, k7, k8, k9, jp, rfl⟩ := M.dict
 simp only [smDict, ledC] at N nd
 have la := strs_len sa
 have lbb := strs_len sb
 have za : va.length ≤ 10000 := by lia
 have zb : vb.length ≤ 10000 := by lia
 w_on
 w_strict (
  have X := Cx.X C
  obtain ⟨mg, mb, T⟩ := Cx.T C
  show wpAny _ _ (execs [_, _] _) _ _ _
  repeat' ((fail_if_success with_reducible show wpAny _ _ (call (Value.ref 203) [Value.ref _]) _ _ _); (fail_if_success with_reducible show wpAny _ _ (compareOp .Eq (Value.ref _) (Value.ref _)) _ _ _); (fail_if_success with_reducible show wpAny _ _ (call (Value.type "list") [Value.ref _]) _ _ _); (fail_if_success with_reducible show wpAny _ _ (binaryOp _ _ _) _ _ _); walk_at "my step1")
  rename Fr _ _ _ _ => F
  rename News _ _ _ _ => N
  refine' gm_first C (Room.le R (by decide)) F N nd (.tail _ (.head _)) (News.get N (by walk_at "my memA")) (News.get N (by walk_at "my memA")) sa sb zx zy (News.get N (by walk_at "my memA")) (News.get N (by walk_at "my memA")) ?hP M BD ?_
  case hP =>
   intro p hp
   exact (N p (by simp only [List.mem_cons, List.mem_append]; simp [hp])).1
  clear F N
  intro h1 tk1 l its kk ledM es1 n1 F N M1 TM
  replace N := news_sub N (news' := (l, listOf its kk) :: (dx, dictOf es1 n1) :: (394, tabObj ps) :: (x, instObj 242 dx) :: (d, listOf dits dn) :: (fa, LCg.lst va) :: (lb, LCg.lst vb) :: (jk, oj) :: (dd, o) :: (ledM ++ (ledP P ++ led))) (fun q hq => by
   simp only [List.mem_cons, List.mem_append] at hq ⊢
   rcases hq with hq | hq | hq | hq | hq | hq | hq | hq | hq | hq | hq | hq <;> simp only [hq, true_or, or_true])
  obtain ⟨q0, q1, q2, q3, q4, q5, q6, q7, q8, q9, jp1, rfl⟩ := M1.dict
  simp only [smDict] at N
  have hlM := All2.length TM
  rw [Array.length_toList, List.length_append, List.length_singleton] at hlM
  clear T mb mg X M nd jp k9 k8 k7 k6 k5 k4 k3 k2 k1 k0 zy zx sb sa BD
  revert C R TD zd m2 m3 m4 m5 la lbb za zb F TM M1 N hlM
  revert oj h1 tk1 l its kk ledM n1 q0 q1 q2 q3 q4 q5 q6 q7 q8 q9 jp1
  exact @zh)
 ⟩
noncomputable def zT (x : YY) : Prop := zQ.1 (x 3 0) (x 2 1) (x 0 2) (x 0 3) (x 29 4) (x 0 5) (x 7 6) (x 0 7) (x 0 8) (x 0 9) (x 0 10) (x 0 11) (x 0 12) (x 0 13) (x 0 14) (x 0 15) (x 0 16) (x 0 17) (x 0 18)
noncomputable def zC := pickY zT
@[irreducible] def oj : Obj := zC 3 0
@[irreducible] def h1 : Heap := zC 2 1
def tk1 : Nat := zC 0 2
def l : Addr := zC 0 3
@[irreducible] def its : Array Value := zC 29 4
def kk : Nat := zC 0 5
@[irreducible] def ledM : List (Addr × Obj) := zC 7 6
def n1 : Nat := zC 0 7
def q0 : Tok := zC 0 8
def q1 : Tok := zC 0 9
def q2 : Tok := zC 0 10
def q3 : Tok := zC 0 11
def q4 : Tok := zC 0 12
def q5 : Tok := zC 0 13
def q6 : Tok := zC 0 14
def q7 : Tok := zC 0 15
def q8 : Tok := zC 0 16
def q9 : Tok := zC 0 17
def jp1 : Addr := zC 0 18
theorem zA (h : zQ.1 oj h1 tk1 l its kk ledM n1 q0 q1 q2 q3 q4 q5 q6 q7 q8 q9 jp1) : ∀ y, zT y := by with_unfolding_all exact pickY_spec zT h
theorem zK : zQ.1 oj h1 tk1 l its kk ledM n1 q0 q1 q2 q3 q4 q5 q6 q7 q8 q9 jp1 := by
 intro C R TD zd m2 m3 m4 m5 la lbb za zb F TM M1 N hlM
 w_on
 w_strict (
  have X := Cx.X C
  obtain ⟨mg, mb, T⟩ := Cx.T C
  repeat' ((fail_if_success with_reducible show wpAny _ _ (call (Value.ref 203) [Value.ref _]) _ _ _); (fail_if_success with_reducible show wpAny _ _ (compareOp .Eq (Value.ref _) (Value.ref _)) _ _ _); (fail_if_success with_reducible show wpAny _ _ (call (Value.type "list") [Value.ref _]) _ _ _); (fail_if_success with_reducible show wpAny _ _ (binaryOp _ _ _) _ _ _); walk_at "my step1")
  refine' list_copyK (items := its) F N ⟨listOf its kk, News.get N (.head _), rfl, _, rfl⟩ ?_ (by rw [sizeLine_eq]; lia)
  clear F N
  intro D1 c1 h2 F N lD
  k_lt lD
  repeat' ((fail_if_success with_reducible show wpAny _ _ (call (Value.ref 203) [Value.ref _]) _ _ _); (fail_if_success with_reducible show wpAny _ _ (compareOp .Eq (Value.ref _) (Value.ref _)) _ _ _); (fail_if_success with_reducible show wpAny _ _ (call (Value.type "list") [Value.ref _]) _ _ _); (fail_if_success with_reducible show wpAny _ _ (binaryOp _ _ _) _ _ _); walk_at "my step1")
  rename Fr _ _ _ _ => F
  rename News _ _ _ _ => N
  rw [la, lbb] at N
  refine' kmk_add_lit F N ?a ?b rfl ?_ ?z
  case a => exact ⟨_, News.get N (by walk_at "my memA"), rfl, _, rfl⟩
  case b => walk_at "my led"
  case z =>
   have := All2.length TD
   rw [sizeLine_eq]
   simp only [List.length_cons, List.length_nil]
   lia
  clear F N
  intro D2 h3 F N lD2
  k_lt lD2
  refine' told_due2 (nn := 20) (y := ((xs.length : Int), (ys.length : Int), 0)) C (Room.le R (by decide)) F N ?hl ?hb ?ht TM TD ?hM ?hT ?_
  case hl => walk_at "my memA"
  case hb => walk_at "my memA"
  case ht => walk_at "my memA"
  case hM =>
   intro q hq
   simp only [List.mem_cons, List.mem_append]
   simp only [hq, true_or, or_true]
  case hT =>
   intro q hq
   simp only [List.mem_cons, List.mem_append]
   simp only [hq, true_or, or_true]
  repeat' ((fail_if_success with_reducible show wpAny _ _ (call (Value.ref 203) [Value.ref _]) _ _ _); (fail_if_success with_reducible show wpAny _ _ (compareOp .Eq (Value.ref _) (Value.ref _)) _ _ _); (fail_if_success with_reducible show wpAny _ _ (call (Value.type "list") [Value.ref _]) _ _ _); (fail_if_success with_reducible show wpAny _ _ (binaryOp _ _ _) _ _ _); walk_at "my step1")
  rename Fr _ _ _ _ => F
  rename News _ _ _ _ => N
  refine' gm_again (Cx.keeps C (Fr.keep F)) (Room.le R (by decide)) (News.get N (by walk_at "my memA")) (News.get N (by walk_at "my memA")) M1 ?_
  intro h4 tk4 K
  have F4 := fr_keeps F K
  have N4 := news_keeps N K
  clear F N K
  repeat' ((fail_if_success with_reducible show wpAny _ _ (call (Value.ref 203) [Value.ref _]) _ _ _); (fail_if_success with_reducible show wpAny _ _ (compareOp .Eq (Value.ref _) (Value.ref _)) _ _ _); (fail_if_success with_reducible show wpAny _ _ (call (Value.type "list") [Value.ref _]) _ _ _); (fail_if_success with_reducible show wpAny _ _ (binaryOp _ _ _) _ _ _); walk_at "my step1")
  refine' list_copyK (items := its) F4 N4 ⟨listOf its kk, News.get N4 (by walk_at "my memA"), rfl, _, rfl⟩ ?_ (by rw [sizeLine_eq]; lia)
  clear F4 N4
  intro D3 c3 h5 F N lD3
  k_lt lD3
  repeat' ((fail_if_success with_reducible show wpAny _ _ (call (Value.ref 203) [Value.ref _]) _ _ _); (fail_if_success with_reducible show wpAny _ _ (compareOp .Eq (Value.ref _) (Value.ref _)) _ _ _); (fail_if_success with_reducible show wpAny _ _ (call (Value.type "list") [Value.ref _]) _ _ _); (fail_if_success with_reducible show wpAny _ _ (binaryOp _ _ _) _ _ _); walk_at "my step1")
  rename Fr _ _ _ _ => F
  rename News _ _ _ _ => N
  refine' list_same (nn := 20) (its := its) (Room.le R (by decide)) N ?hl ?hb ?_
  case hl => walk_at "my memA"
  case hb => walk_at "my memA"
  repeat' ((fail_if_success with_reducible show wpAny _ _ (call (Value.ref 203) [Value.ref _]) _ _ _); (fail_if_success with_reducible show wpAny _ _ (compareOp .Eq (Value.ref _) (Value.ref _)) _ _ _); (fail_if_success with_reducible show wpAny _ _ (call (Value.type "list") [Value.ref _]) _ _ _); (fail_if_success with_reducible show wpAny _ _ (binaryOp _ _ _) _ _ _); walk_at "my step1")
  exact ⟨rfl, _, _, _, rfl, Fr.keep (by assumption), News.get (by assumption) (by walk_at "my memA")⟩)
end zB
theorem zK : zP w s h₀ L fa lb x dx jk dd d m va vb n dn dits xs ys P o led due ps := zB.zQ.2 fun oj h1 tk1 l its kk ledM n1 q0 q1 q2 q3 q4 q5 q6 q7 q8 q9 jp1 => zB.zA zB.zK (putY [⟨3, oj⟩, ⟨2, h1⟩, ⟨0, tk1⟩, ⟨0, l⟩, ⟨29, its⟩, ⟨0, kk⟩, ⟨7, ledM⟩, ⟨0, n1⟩, ⟨0, q0⟩, ⟨0, q1⟩, ⟨0, q2⟩, ⟨0, q3⟩, ⟨0, q4⟩, ⟨0, q5⟩, ⟨0, q6⟩, ⟨0, q7⟩, ⟨0, q8⟩, ⟨0, q9⟩, ⟨0, jp1⟩])
end claw_d
end
theorem law_d {w : World} {s : Shared} {h₀ : Heap} {L fa lb x dx jk dd d : Addr} {m : Str → Option Value} {va vb : List Value} {n dn : Nat} {dits : Array Value} {xs ys : List Str} {P : List PlE} {o : Obj} {led : List (Addr × Obj)} {due : List (Int × Int × Int)} {ps : Array Value} : claw_d.zP w s h₀ L fa lb x dx jk dd d m va vb n dn dits xs ys P o led due ps := claw_d.zA claw_d.zK (putY [⟨1, w⟩, ⟨5, s⟩, ⟨2, h₀⟩, ⟨0, L⟩, ⟨0, fa⟩, ⟨0, lb⟩, ⟨0, x⟩, ⟨0, dx⟩, ⟨0, jk⟩, ⟨0, dd⟩, ⟨0, d⟩, ⟨6, m⟩, ⟨4, va⟩, ⟨4, vb⟩, ⟨0, n⟩, ⟨0, dn⟩, ⟨29, dits⟩, ⟨13, xs⟩, ⟨13, ys⟩, ⟨37, P⟩, ⟨3, o⟩, ⟨7, led⟩, ⟨31, due⟩, ⟨29, ps⟩])
end
section
theorem led_c {h₀ h : Heap} {L : Addr} {news rest : List (Addr × Obj)} {e : Addr × Obj} {ps : Array Value} (N : News h₀ L h news) (hm : (394, tabObj ps) ∈ news) (hd : e ∈ news) (hs : ∀ q ∈ rest, q ∈ news) : ∃ ps, News h₀ L h (e :: (394, tabObj ps) :: rest) :=
 ⟨ps, fun q hq => by
  rcases List.mem_cons.mp hq with rfl | hq
  ·exact N _ hd
  ·rcases List.mem_cons.mp hq with rfl | hq
   ·exact N _ hm
   ·exact N _ (hs _ hq)⟩
noncomputable section
namespace claw_c
noncomputable def zP (w : World) (s : Shared) (h₀ : Heap) (L fa lb x dx jk dd d : Addr) (m : Str → Option Value) (va vb : List Value) (n dn : Nat) (dits : Array Value) (xs ys : List Str) (P : List PlE) (o : Obj) (led : List (Addr × Obj)) (due : List (Int × Int × Int)) (p : Program) (loose : List Str) (mean : ExcName → Option Value) (mg0 mb0 : Str → Option Value) : Prop := ∀ {es : List DictEntry} {oj : Obj} (C : Cx w h₀) (R : Room (callerA.deeper (lawEnv L)) 30) (F : Fr h₀ L s.heap m) (N : News h₀ L s.heap ((394, tabObj #[]) :: (dx, dictOf es n) :: ledC x dx jk dd d fa lb n dn es dits va vb oj o P led)) (n4 : ∀ p ∈ (dx, dictOf es n) :: ledC x dx jk dd d fa lb n dn es dits va vb oj o P led, p.1 ≠ 394) (nd : ∀ p ∈ ledC x dx jk dd d fa lb n dn es dits va vb oj o P led, p.1 ≠ dx) (M : SMat w fa lb .none ys x dx jk dd o P es oj) (TD : T3s led dits.toList due) (BD : Blks xs ys 0 xs.length 0 ys.length due) (zd : due.length ≤ 6) (TT : Top p loose mean mg0 mb0 h₀) (CH : CodeHd h₀ 396 394) (sa : StrsAre va xs) (sb : StrsAre vb ys) (zx : xs.length ≤ 6) (zy : ys.length ≤ 6) (m2 : m (Str.ofString "first") = some (.ref fa)) (m3 : m (Str.ofString "last") = some (.ref lb)) (m4 : m (Str.ofString "due") = some (.ref d)) (m5 : m (Str.ofString "matcher") = some (.ref x)), wpAny (model pw w) (callerA.deeper (lawEnv L)) (execs (lawBody.drop 5) (lawEnv L)) (LawEnd h₀ s) (fun _ _ => False) s
noncomputable def zT (x : YY) : Prop := zP (x 1 0) (x 5 1) (x 2 2) (x 0 3) (x 0 4) (x 0 5) (x 0 6) (x 0 7) (x 0 8) (x 0 9) (x 0 10) (x 6 11) (x 4 12) (x 4 13) (x 0 14) (x 0 15) (x 29 16) (x 13 17) (x 13 18) (x 37 19) (x 3 20) (x 7 21) (x 31 22) (x 14 23) (x 13 24) (x 44 25) (x 6 26) (x 6 27)
noncomputable def zC := pickY zT
@[irreducible] def w : World := zC 1 0
@[irreducible] def s : Shared := zC 5 1
@[irreducible] def h₀ : Heap := zC 2 2
def L : Addr := zC 0 3
def fa : Addr := zC 0 4
def lb : Addr := zC 0 5
def x : Addr := zC 0 6
def dx : Addr := zC 0 7
def jk : Addr := zC 0 8
def dd : Addr := zC 0 9
def d : Addr := zC 0 10
def m : Str → Option Value := zC 6 11
@[irreducible] def va : List Value := zC 4 12
@[irreducible] def vb : List Value := zC 4 13
def n : Nat := zC 0 14
def dn : Nat := zC 0 15
@[irreducible] def dits : Array Value := zC 29 16
@[irreducible] def xs : List Str := zC 13 17
@[irreducible] def ys : List Str := zC 13 18
@[irreducible] def P : List PlE := zC 37 19
@[irreducible] def o : Obj := zC 3 20
@[irreducible] def led : List (Addr × Obj) := zC 7 21
@[irreducible] def due : List (Int × Int × Int) := zC 31 22
@[irreducible] def p : Program := zC 14 23
@[irreducible] def loose : List Str := zC 13 24
def mean : ExcName → Option Value := zC 44 25
def mg0 : Str → Option Value := zC 6 26
def mb0 : Str → Option Value := zC 6 27
theorem zA (h : zP w s h₀ L fa lb x dx jk dd d m va vb n dn dits xs ys P o led due p loose mean mg0 mb0) : ∀ y, zT y := by with_unfolding_all exact pickY_spec zT h
namespace zB
noncomputable def zQ : {zz : Obj → Tok → Tok → Tok → Tok → Tok → Tok → Tok → Tok → Tok → Tok → Addr → Heap → Nat → Addr → Addr → Nat → Nat → Nat → Tok → Tok → Tok → Prop // (∀ oj k0 k1 k2 k3 k4 k5 k6 k7 k8 k9 jp h1 tk1 x1 dx1 k i j t1 t2 t3, zz oj k0 k1 k2 k3 k4 k5 k6 k7 k8 k9 jp h1 tk1 x1 dx1 k i j t1 t2 t3) → zP w s h₀ L fa lb x dx jk dd d m va vb n dn dits xs ys P o led due p loose mean mg0 mb0} := ⟨_, by
 intro zh
 intro es oj C R F N n4 nd M TD BD zd TT CH sa sb zx zy m2 m3 m4 m5
 obtain ⟨k0, k1, k2, k3, k4, k5, k6, k7, k8, k9, jp, rfl⟩ := M.dict
 simp only [smDict, ledC] at N n4 nd
 w_on
 w_strict (
  have X := Cx.X C
  obtain ⟨mg, mb, T⟩ := Cx.T C
  show wpAny _ _ (execs [_, _, _, _] _) _ _ _
  repeat' ((fail_if_success with_reducible show wpAny _ _ (call (Value.ref 196) [Value.ref _]) _ _ _); (fail_if_success with_reducible show wpAny _ _ (execs [_, _] _) _ _ _); (fail_if_success with_reducible show wpAny _ _ (compareOp .NotEq (Value.ref _) (Value.ref _)) _ _ _); walk_at "my step1")
  rename Fr _ _ _ _ => F
  rename News _ _ _ _ => N
  refine' longest0_ (Cx.keeps C (Fr.keep F)) (Room.le R (by decide)) (News.get N (by walk_at "my memA")) (News.get N (by walk_at "my memA")) sa sb zx zy (News.get N (by walk_at "my memA")) (News.get N (by walk_at "my memA")) (News.get N (by walk_at "my memA")) (News.get N (by walk_at "my memA")) ?hP M ?_
  case hP =>
   intro p hp
   exact (N p (by simp only [List.mem_cons, List.mem_append]; simp [hp])).1
  intro h1 tk1 x1 dx1 k i j t1 t2 t3 K nn hx1 HB
  obtain ⟨F1, N1, o1⟩ := news_back F N K nn hx1
  have w4 : x1 ≠ 394 := by
   rintro rfl
   have := News.get N (.head _)
   rw [nn] at this; cases this
  have wd : x1 ≠ dx := by
   rintro rfl
   have := News.get N (.tail _ (.head _))
   rw [nn] at this; cases this
  clear F N K nn hx1
  clear wd o1 T mb mg X
  revert C R TD BD zd TT CH sa sb zx zy m2 m3 m4 m5 n4 nd M HB F1 N1 w4
  revert oj k0 k1 k2 k3 k4 k5 k6 k7 k8 k9 jp h1 tk1 x1 dx1 k i j t1 t2 t3
  exact @zh)
 ⟩
noncomputable def zT (x : YY) : Prop := zQ.1 (x 3 0) (x 0 1) (x 0 2) (x 0 3) (x 0 4) (x 0 5) (x 0 6) (x 0 7) (x 0 8) (x 0 9) (x 0 10) (x 0 11) (x 2 12) (x 0 13) (x 0 14) (x 0 15) (x 0 16) (x 0 17) (x 0 18) (x 0 19) (x 0 20) (x 0 21)
noncomputable def zC := pickY zT
@[irreducible] def oj : Obj := zC 3 0
def k0 : Tok := zC 0 1
def k1 : Tok := zC 0 2
def k2 : Tok := zC 0 3
def k3 : Tok := zC 0 4
def k4 : Tok := zC 0 5
def k5 : Tok := zC 0 6
def k6 : Tok := zC 0 7
def k7 : Tok := zC 0 8
def k8 : Tok := zC 0 9
def k9 : Tok := zC 0 10
def jp : Addr := zC 0 11
@[irreducible] def h1 : Heap := zC 2 12
def tk1 : Nat := zC 0 13
def x1 : Addr := zC 0 14
def dx1 : Addr := zC 0 15
def k : Nat := zC 0 16
def i : Nat := zC 0 17
def j : Nat := zC 0 18
def t1 : Tok := zC 0 19
def t2 : Tok := zC 0 20
def t3 : Tok := zC 0 21
theorem zA (h : zQ.1 oj k0 k1 k2 k3 k4 k5 k6 k7 k8 k9 jp h1 tk1 x1 dx1 k i j t1 t2 t3) : ∀ y, zT y := by with_unfolding_all exact pickY_spec zT h
theorem zK : zQ.1 oj k0 k1 k2 k3 k4 k5 k6 k7 k8 k9 jp h1 tk1 x1 dx1 k i j t1 t2 t3 := by
 intro C R TD BD zd TT CH sa sb zx zy m2 m3 m4 m5 n4 nd M HB F1 N1 w4
 w_on
 w_strict (
  have X := Cx.X C
  obtain ⟨mg, mb, T⟩ := Cx.T C
  repeat' ((fail_if_success with_reducible show wpAny _ _ (call (Value.ref 196) [Value.ref _]) _ _ _); (fail_if_success with_reducible show wpAny _ _ (execs [_, _] _) _ _ _); (fail_if_success with_reducible show wpAny _ _ (compareOp .NotEq (Value.ref _) (Value.ref _)) _ _ _); walk_at "my step1")
  refine' unpack_led ?za ?zC ?zF ?zN ?zm ?zb ?zc ?_
  case za => exact rfl
  case zC => walk_at "my cx"
  case zF => walk_at "a"
  walk_at "my nm"
  case zb => exact rfl
  case zc => exact rfl
  intro zh7 zF7 zN7
  k_sweep
  repeat' ((fail_if_success with_reducible show wpAny _ _ (call (Value.ref 196) [Value.ref _]) _ _ _); (fail_if_success with_reducible show wpAny _ _ (execs [_, _] _) _ _ _); (fail_if_success with_reducible show wpAny _ _ (compareOp .NotEq (Value.ref _) (Value.ref _)) _ _ _); walk_at "my step1")
  rename Fr _ _ _ _ => F
  rename News _ _ _ _ => N
  refine' kmk_add_lit F N ?a ?b rfl ?_ ?z
  case a => walk_at "my led"
  case b => exact ⟨_, News.get N (by walk_at "my memA"), rfl, _, rfl⟩
  case z =>
   have := All2.length TD
   rw [sizeLine_eq]
   simp only [List.length_cons, List.length_nil]
   lia
  clear F N
  intro D1 h2 F N lD
  k_lt lD
  repeat' ((fail_if_success with_reducible show wpAny _ _ (call (Value.ref 196) [Value.ref _]) _ _ _); (fail_if_success with_reducible show wpAny _ _ (execs [_, _] _) _ _ _); (fail_if_success with_reducible show wpAny _ _ (compareOp .NotEq (Value.ref _) (Value.ref _)) _ _ _); walk_at "my step1")
  rename Fr _ _ _ _ => F
  rename News _ _ _ _ => N
  show wpAny _ _ (call (.builtin "min") [.ref _] [(Str.ofString "key", .ref _)]) _ _ _
  refine' min_due C (Room.le R (by decide)) rfl F N ?hD ?h0 ?hs TD BD HB ?hf ?hc (by assumption) (by assumption) ?_
  case hD => walk_at "my memA"
  case h0 => walk_at "my memA"
  case hf => walk_at "my memA"
  case hc => walk_at "my memA"
  case hs => (intro q hq; simp only [List.mem_cons, List.mem_append]; simp [hq])
  clear F N
  intro h3 tk3 am ta tb tc F N hm
  repeat' ((fail_if_success with_reducible show wpAny _ _ (call (Value.ref 196) [Value.ref _]) _ _ _); (fail_if_success with_reducible show wpAny _ _ (execs [_, _] _) _ _ _); (fail_if_success with_reducible show wpAny _ _ (compareOp .NotEq (Value.ref _) (Value.ref _)) _ _ _); walk_at "my step1")
  refine' ne_same3 (Room.le R (by decide : 1 ≤ 30)) N (by walk_at "my memA") hm ?_
  repeat' ((fail_if_success with_reducible show wpAny _ _ (call (Value.ref 196) [Value.ref _]) _ _ _); (fail_if_success with_reducible show wpAny _ _ (execs [_, _] _) _ _ _); (fail_if_success with_reducible show wpAny _ _ (compareOp .NotEq (Value.ref _) (Value.ref _)) _ _ _); walk_at "my step1")
  rename Fr _ _ _ _ => F
  rename News _ _ _ _ => N
  obtain ⟨ps, N1⟩ := led_c (e := (dx, dictOf (smDict w.params k0 k1 k2 k3 k4 k5 k6 k7 k8 k9 fa lb .none dd jk jp) n)) (rest := ledC x dx jk dd d fa lb n dn (smDict w.params k0 k1 k2 k3 k4 k5 k6 k7 k8 k9 fa lb .none dd jk jp) dits va vb oj o P led) N (by walk_at "my memA") (by walk_at "my memA")
   (fun q hq => by simp only [ledC, List.mem_cons] at hq ⊢; simp only [hq, true_or, or_true])
  clear N
  refine' cut_exec (law_d C R F N1 ?nd M TD BD zd sa sb zx zy ?q2 ?q3 ?q4 ?q5) ?_
  case nd =>
   intro q hq
   rcases List.mem_cons.mp hq with rfl | hq
   ·exact fun e => n4 _ (.head _) e.symm
   ·exact nd q hq
  case q2 => walk_at "my look"
  case q3 => walk_at "my look"
  case q4 => walk_at "my look"
  case q5 => walk_at "my look"
  rintro f s' ⟨rfl, h9, tk9, ps9, rfl, K9, g9⟩
  exact ⟨rfl, h9, tk9, ps9, rfl, K9, g9⟩)
end zB
theorem zK : zP w s h₀ L fa lb x dx jk dd d m va vb n dn dits xs ys P o led due p loose mean mg0 mb0 := zB.zQ.2 fun oj k0 k1 k2 k3 k4 k5 k6 k7 k8 k9 jp h1 tk1 x1 dx1 k i j t1 t2 t3 => zB.zA zB.zK (putY [⟨3, oj⟩, ⟨0, k0⟩, ⟨0, k1⟩, ⟨0, k2⟩, ⟨0, k3⟩, ⟨0, k4⟩, ⟨0, k5⟩, ⟨0, k6⟩, ⟨0, k7⟩, ⟨0, k8⟩, ⟨0, k9⟩, ⟨0, jp⟩, ⟨2, h1⟩, ⟨0, tk1⟩, ⟨0, x1⟩, ⟨0, dx1⟩, ⟨0, k⟩, ⟨0, i⟩, ⟨0, j⟩, ⟨0, t1⟩, ⟨0, t2⟩, ⟨0, t3⟩])
end claw_c
end
theorem law_c {w : World} {s : Shared} {h₀ : Heap} {L fa lb x dx jk dd d : Addr} {m : Str → Option Value} {va vb : List Value} {n dn : Nat} {dits : Array Value} {xs ys : List Str} {P : List PlE} {o : Obj} {led : List (Addr × Obj)} {due : List (Int × Int × Int)} {p : Program} {loose : List Str} {mean : ExcName → Option Value} {mg0 mb0 : Str → Option Value} : claw_c.zP w s h₀ L fa lb x dx jk dd d m va vb n dn dits xs ys P o led due p loose mean mg0 mb0 := claw_c.zA claw_c.zK (putY [⟨1, w⟩, ⟨5, s⟩, ⟨2, h₀⟩, ⟨0, L⟩, ⟨0, fa⟩, ⟨0, lb⟩, ⟨0, x⟩, ⟨0, dx⟩, ⟨0, jk⟩, ⟨0, dd⟩, ⟨0, d⟩, ⟨6, m⟩, ⟨4, va⟩, ⟨4, vb⟩, ⟨0, n⟩, ⟨0, dn⟩, ⟨29, dits⟩, ⟨13, xs⟩, ⟨13, ys⟩, ⟨37, P⟩, ⟨3, o⟩, ⟨7, led⟩, ⟨31, due⟩, ⟨14, p⟩, ⟨13, loose⟩, ⟨44, mean⟩, ⟨6, mg0⟩, ⟨6, mb0⟩])
end
section
theorem law_b {w : World} {s : Shared} {h₀ : Heap} {L fa lb l l0 l1 : Addr} {m : Str → Option Value} {va vb : List Value} {k n0 n1 : Nat} {its0 its1 : Array Value} {r0 r1 : List Str}
  (C : Cx w h₀) (R : Room (callerA.deeper (lawEnv L)) 30) (F : Fr h₀ L s.heap m) (N : News h₀ L s.heap [(fa, LCg.lst va), (lb, LCg.lst vb), (l, listOf #[.ref l0, .ref l1] k), (l0, listOf its0 n0), (l1, listOf its1 n1), (394, tabObj #[])])
  {p : Program} {loose : List Str} {mean : ExcName → Option Value} {mg0 mb0 : Str → Option Value} (TT : Top p loose mean mg0 mb0 h₀) (CH : CodeHd h₀ 396 394)
  (sA0 : StrsAre its0.toList r0) (sA1 : StrsAre its1.toList r1) (g0 : RowOk r0 (r0.filter isNm)) (g1 : RowOk r1 (r1.filter isNm)) (sa : StrsAre va (r0.filter isNm)) (sb : StrsAre vb (r1.filter isNm))
  (m1 : m (Str.ofString "rows") = some (.ref l)) (m2 : m (Str.ofString "first") = some (.ref fa)) (m3 : m (Str.ofString "last") = some (.ref lb)) :
  wpAny (model pw w) (callerA.deeper (lawEnv L)) (execs (lawBody.drop 2) (lawEnv L)) (LawEnd h₀ s) (fun _ _ => False) s := by
 have zA := g0.few
 have zB := g1.few
 have la := strs_len sa
 have lbb := strs_len sb
 have za : va.length ≤ 10000 := by lia
 have zb : vb.length ≤ 10000 := by lia
 w_on
 w_strict (
  have X := Cx.X C
  obtain ⟨mg, mb, T⟩ := Cx.T C
  show wpAny _ _ (execs [_, _, _, _, _, _, _] _) _ _ _
  walk_at "my steps"
  have li0 : s.heap.IsList l0 its0.toList.toArray := by rw [Array.toArray_toList]; exact ⟨_, News.get N (by walk_at "my memA"), rfl, _, rfl⟩
  have li1 : s.heap.IsList l1 its1.toList.toArray := by rw [Array.toArray_toList]; exact ⟨_, News.get N (by walk_at "my memA"), rfl, _, rfl⟩
  refine' blocks_ g0 g1 sA0 sA1 7 (alo := 0) (ahi := (r0.filter isNm).length) (blo := 0) (bhi := (r1.filter isNm).length) ?C ?R ?la li0 li1 ?hn (Nat.zero_le _) (Nat.le_refl _) (Nat.zero_le _) (Nat.le_refl _) rfl ?e2 rfl ?e4 ?_
  case C => exact Cx.keeps C (Fr.keep F)
  case R => exact Room.le R (by decide)
  case la => exact ⟨_, News.get N (by walk_at "my memA"), rfl, _, rfl⟩
  case hn => lia
  case e2 => lia
  case e4 => lia
  clear li0 li1
  intro h1 tk1 d dits dn led due K H TD BD zd
  have oldb : ∀ q ∈ (d, listOf dits dn) :: led, q.1 ≠ 394 := fun q hq e => by
   have := (H q hq).2
   rw [e, News.get N (by walk_at "my memA")] at this
   cases this
  obtain ⟨F1, N1⟩ := news_join F N K ((d, listOf dits dn) :: led) H
  clear F N K H
  replace N1 := news_sub N1 (news' := (d, listOf dits dn) :: (fa, LCg.lst va) :: (lb, LCg.lst vb) :: (394, tabObj #[]) :: led) (fun p hp => by
   simp only [List.mem_cons, List.mem_append, List.not_mem_nil, or_false] at hp ⊢
   rcases hp with h | h | h | h | h
   ·exact .inl (.inl h)
   ·exact .inr (.inl h)
   ·exact .inr (.inr (.inl h))
   ·exact .inr (.inr (.inr (.inr (.inr (.inr h)))))
   ·exact .inl (.inr h))
  walk_at "my steps"
  rename Fr _ _ _ _ => F
  rename News _ _ _ _ => N
  refine' make_ ?C ?R (News.get N (by walk_at "my memA")) (News.get N (by walk_at "my memA")) sa sb ?z ?_
  case C => exact Cx.keeps C (Fr.keep F)
  case R => exact Room.le R (by decide)
  case z => lia
  intro h2 tk2 x dx jk dd oo P es n oj K H M hne
  have old4 : ∀ q ∈ (x, instObj 242 dx) :: (dx, dictOf es n) :: (jk, oj) :: (dd, oo) :: ledP P, q.1 ≠ 394 := fun q hq e => by
   have := (H q hq).2
   rw [e, News.get N (by walk_at "my memA")] at this
   cases this
  have oldd : ∀ q ∈ (d, listOf dits dn) :: (fa, LCg.lst va) :: (lb, LCg.lst vb) :: (394, tabObj #[]) :: led, q.1 ≠ dx := fun q hq e => by
   have := (H _ (.tail _ (.head _))).2
   rw [← e, (N q hq).1] at this
   cases this
  obtain ⟨F2, N2⟩ := news_join F N K _ H
  clear F N K H
  have f4 : fa ≠ 394 := fun e => by
   have h1 := (N2 (fa, LCg.lst va) (by simp)).1
   have h2 := (N2 (394, tabObj #[]) (by simp)).1
   rw [← e] at h2
   exact absurd (h1.symm.trans h2) (by simp [LCg.lst, tabObj])
  have b4 : lb ≠ 394 := fun e => by
   have h1 := (N2 (lb, LCg.lst vb) (by simp)).1
   have h2 := (N2 (394, tabObj #[]) (by simp)).1
   rw [← e] at h2
   exact absurd (h1.symm.trans h2) (by simp [LCg.lst, tabObj])
  replace N2 := news_sub N2 (news' := (394, tabObj #[]) :: (dx, dictOf es n) :: ledC x dx jk dd d fa lb n dn es dits va vb oj oo P led) (fun q hq => by
   simp only [List.mem_cons, List.mem_append, ledC] at hq ⊢
   rcases hq with hq | hq | hq | hq | hq | hq | hq | hq | hq | hq <;> simp only [hq, true_or, or_true])
  have n4 : ∀ q ∈ (dx, dictOf es n) :: ledC x dx jk dd d fa lb n dn es dits va vb oj oo P led, q.1 ≠ 394 := fun q hq => by
   simp only [List.mem_cons, List.mem_append, ledC] at hq
   simp only [List.mem_cons] at old4 oldb
   rcases hq with hq | hq | hq | hq | hq | hq | hq | hq | hq
   ·exact old4 q (.inr (.inl hq))
   ·exact old4 q (.inl hq)
   ·exact oldb q (.inl hq)
   ·rw [hq]; exact f4
   ·rw [hq]; exact b4
   ·exact old4 q (.inr (.inr (.inl hq)))
   ·exact old4 q (.inr (.inr (.inr (.inl hq))))
   ·exact old4 q (.inr (.inr (.inr (.inr hq))))
   ·exact oldb q (.inr hq)
  have nd : ∀ q ∈ ledC x dx jk dd d fa lb n dn es dits va vb oj oo P led, q.1 ≠ dx := fun q hq => by
   simp only [List.mem_cons, List.mem_append, ledC] at hq
   simp only [List.mem_cons] at hne oldd
   rcases hq with hq | hq | hq | hq | hq | hq | hq | hq
   ·exact hne q (.inl hq)
   ·exact oldd q (.inl hq)
   ·exact oldd q (.inr (.inl hq))
   ·exact oldd q (.inr (.inr (.inl hq)))
   ·exact hne q (.inr (.inl hq))
   ·exact hne q (.inr (.inr (.inl hq)))
   ·exact hne q (.inr (.inr (.inr hq)))
   ·exact oldd q (.inr (.inr (.inr (.inr hq))))
  clear old4 oldb oldd f4 b4 hne
  repeat' ((fail_if_success with_reducible show wpAny _ _ (execs (Stmt.Assign [Expr.Tuple [_, _, _] _ _] _ _ :: _) _) _ _ _); walk_at "my step1")
  rename Fr _ _ _ _ => F
  rename News _ _ _ _ => N
  refine' cut_exec (law_c C R F N n4 nd M TD BD ?zd TT CH sa sb ?zx ?zy ?q2 ?q3 ?q4 ?q5) ?_
  case zd => lia
  case zx => lia
  case zy => lia
  case q2 => walk_at "my look"
  case q3 => walk_at "my look"
  case q4 => walk_at "my look"
  case q5 => walk_at "my look"
  rintro f s' ⟨rfl, h9, tk9, ps9, rfl, K9, g9⟩
  exact ⟨rfl, h9, tk9, ps9, rfl, K9, g9⟩)
end
section
noncomputable section
namespace claw0
noncomputable def zP (w : World) (s : Shared) (a : Addr) (vs : List Value) (ns : List Int) (mean : ExcName → Option Value) (mg0 mb0 : Str → Option Value) : Prop := ∀ (X0 : (KW w.params).In s.heap) (la : s.heap.IsList a vs.toArray) (sa : IntsAre vs ns) (zn : ns.length ≤ 63) (TT : Top qw looseN mean mg0 mb0 s.heap) (hT : TabsAt [(396, 394)] s.heap) (hg : s.gens = #[]), wpAny (model pw w) callerA (call (.ref 397) [.ref a]) (fun v s' => v = .bool true ∧ (∀ b o, b ≠ 394 → s.heap.get? b = some o → s'.heap.get? b = some o) ∧ (∃ ps, s'.heap.get? 394 = some (tabObj ps)) ∧ s'.os = s.os ∧ s'.gens = #[]) (fun _ _ => False) s
noncomputable def zT (x : YY) : Prop := zP (x 1 0) (x 5 1) (x 0 2) (x 4 3) (x 41 4) (x 44 5) (x 6 6) (x 6 7)
noncomputable def zC := pickY zT
@[irreducible] def w : World := zC 1 0
@[irreducible] def s : Shared := zC 5 1
def a : Addr := zC 0 2
@[irreducible] def vs : List Value := zC 4 3
@[irreducible] def ns : List Int := zC 41 4
def mean : ExcName → Option Value := zC 44 5
def mg0 : Str → Option Value := zC 6 6
def mb0 : Str → Option Value := zC 6 7
theorem zA (h : zP w s a vs ns mean mg0 mb0) : ∀ y, zT y := by with_unfolding_all exact pickY_spec zT h
namespace zB
noncomputable def zQ : {zz : Addr → Addr → Addr → Heap → (List Int) → Heap → Nat → Addr → Addr → Addr → Nat → (Array Value) → Nat → (Array Value) → Nat → Prop // (∀ D1 zy2 D2 h3 ms h4 tk4 l l0 l1 k its0 n0 its1 n1, zz D1 zy2 D2 h3 ms h4 tk4 l l0 l1 k its0 n0 its1 n1) → zP w s a vs ns mean mg0 mb0} := ⟨_, by
 intro zh
 intro X0 la sa zn TT hT hg
 have C0 : Cx w s.heap := ⟨X0, mg0, mb0, ⟨TT.g, TT.b, TT.nolimit, TT.builtins, TT.free⟩⟩
 w_on
 w_strict (
  refine wpAny_call ?_
  refine' enter [(Str.ofString "script", .ref a)] C0 ?k6 ?k7 ?k8 ?k9 ?kB ?_ ?c2 ?c3 ?c4 ?c5
  case k6 => k_is
  case k7 => k_is
  case k8 => exact (⟨by decide, by decide, rfl⟩ : Room callerA 31)
  case k9 => walk_at "my binds"
  case c5 => decide
  case kB => exact locs rfl
  case c2 => exact rfl
  case c3 => exact rfl
  case c4 => exact rfl
  intro h1 F N R
  replace N : News (ghostOf s.heap [(396, 394)]) s.heap.objs.size h1 [(394, tabObj #[])] := ghost_news hT F N
  replace F := ghost_fr hT F
  replace la := ghost_list hT la
  have C := cx_ghost X0 TT hT
  have G0 : ∀ b o, b ≠ 394 → s.heap.get? b = some o → (ghostOf s.heap [(396, 394)]).get? b = some o := fun b o hb e => ghost_ne e (by simpa using hb)
  have CH : CodeHd (ghostOf s.heap [(396, 394)]) 396 394 := (ghost_code hT).1
  have TG := ghost_top hT TT
  clear C0 X0 TT
  clear hT
  have X := Cx.X C
  obtain ⟨mg, mb, T⟩ := Cx.T C
  try dsimp only
  walk_at "my steps"
  have zv : vs.length ≤ 63 := by rw [IntsAre.length sa]; exact zn
  refine' slice10 F N la (by (first | lia | omega)) ?hs ?ht ?_
  case hs => with_unfolding_all rfl
  case ht => (intro _; with_unfolding_all rfl)
  clear F N
  intro D1 h2 F N l1
  k_lt l1
  walk_at "my steps"
  rename Fr _ _ _ _ => F
  rename News _ _ _ _ => N
  refine' kmk_add_lit F N ?a ?b rfl ?_ ?z
  case a => walk_at "my led"
  case b => walk_at "my led"
  case z =>
   rw [sizeLine_eq]
   simp only [List.length_append, List.length_take, List.length_cons, List.length_nil, List.toList_toArray]
   (first | lia | omega)
  clear F N
  intro D2 h3 F N l2
  k_lt l2
  walk_at "my steps"
  rename Fr _ _ _ _ => F
  rename News _ _ _ _ => N
  obtain ⟨ms, hms⟩ : ∃ ms, ms = ns.take 10 ++ [2, 0, 2, 1, 3, 1] := ⟨_, rfl⟩
  have hmz : ms.length ≤ 100 := by rw [hms]; simp only [List.length_append, List.length_take, List.length_cons, List.length_nil]; (first | lia | omega)
  obtain ⟨okA, okB, pA, pB⟩ := rowsS_ok ms
  refine' rows2_ (ns := ms) (Cx.keeps C (Fr.keep F)) (Room.le R (by decide)) ?la ?sa hmz ?_
  case la => walk_at "my led"
  case sa => rw [hms]; exact ints_appendZ (ints_take sa 10) ints6
  intro h4 tk4 l l0 l1 k its0 n0 its1 n1 K e e0 e1 g g0 g1 sA0 sA1 z0 z1
  obtain ⟨F1, N1⟩ := news_join F N K [(l, listOf #[.ref l0, .ref l1] k), (l0, listOf its0 n0), (l1, listOf its1 n1)] (List.forall_mem_cons.mpr ⟨⟨g, e⟩, List.forall_mem_cons.mpr ⟨⟨g0, e0⟩, List.forall_mem_cons.mpr ⟨⟨g1, e1⟩, List.forall_mem_nil _⟩⟩⟩)
  clear F N K e e0 e1 g g0 g1
  rename_i zy1 zy2 zy3 zy4
  clear hmz hms l2 zy4 zy3 zy1 h2 zv T mb mg X la h1 zn sa
  revert hg R C G0 CH TG okA okB pA pB sA0 sA1 z0 z1 F1 N1
  revert D1 zy2 D2 h3 ms h4 tk4 l l0 l1 k its0 n0 its1 n1
  exact @zh)
 ⟩
noncomputable def zT (x : YY) : Prop := zQ.1 (x 0 0) (x 0 1) (x 0 2) (x 2 3) (x 41 4) (x 2 5) (x 0 6) (x 0 7) (x 0 8) (x 0 9) (x 0 10) (x 29 11) (x 0 12) (x 29 13) (x 0 14)
noncomputable def zC := pickY zT
def D1 : Addr := zC 0 0
def zy2 : Addr := zC 0 1
def D2 : Addr := zC 0 2
@[irreducible] def h3 : Heap := zC 2 3
@[irreducible] def ms : List Int := zC 41 4
@[irreducible] def h4 : Heap := zC 2 5
def tk4 : Nat := zC 0 6
def l : Addr := zC 0 7
def l0 : Addr := zC 0 8
def l1 : Addr := zC 0 9
def k : Nat := zC 0 10
@[irreducible] def its0 : Array Value := zC 29 11
def n0 : Nat := zC 0 12
@[irreducible] def its1 : Array Value := zC 29 13
def n1 : Nat := zC 0 14
theorem zA (h : zQ.1 D1 zy2 D2 h3 ms h4 tk4 l l0 l1 k its0 n0 its1 n1) : ∀ y, zT y := by with_unfolding_all exact pickY_spec zT h
theorem zK : zQ.1 D1 zy2 D2 h3 ms h4 tk4 l l0 l1 k its0 n0 its1 n1 := by
 intro hg R C G0 CH TG okA okB pA pB sA0 sA1 z0 z1 F1 N1
 w_on
 w_strict (
  have X := Cx.X C
  obtain ⟨mg, mb, T⟩ := Cx.T C
  replace N1 := news_sub N1 (news' := [(l, listOf #[.ref l0, .ref l1] k), (l0, listOf its0 n0), (l1, listOf its1 n1), (394, tabObj #[])]) (fun p hp => by
   simp only [List.mem_cons, List.mem_append, List.not_mem_nil, or_false] at hp ⊢
   rcases hp with h | h | h | h <;> simp only [h, true_or, or_true])
  walk_at "my steps"
  walk1
  (try dsimp only)
  refine' LCg.ListComp_U (L := s.heap.objs.size) (h₀ := ghostOf s.heap [(396, 394)]) ?a0 ?a3 ?a4 ?a5 ?a6 ?a7 ?b1 ?b2
  case a0 => walk_at "a"
  case a3 => with_unfolding_all rfl
  case a4 => decide
  case a5 => rfl
  case a6 => decide
  case a7 => rfl
  case b2 => intro _; rfl
  case b1 =>
  walk_at "my steps"
  walk1
  (try dsimp only)
  walk_at "my steps"
  refine' LCt.ListComp_T (L := s.heap.objs.size) (h₀ := ghostOf s.heap [(396, 394)]) ?u0 ?u1 ?u2 ?u3 ?u4 ?u5 ?u6 ?u7
  case u0 => walk_at "a"
  case u1 => with_unfolding_all rfl
  case u2 => decide
  case u3 => rfl
  case u4 => decide
  case u5 => rfl
  case u7 => intro _; rfl
  case u6 =>
  walk_at "my steps"
  refine' LCt.CompSrcT.ledger (its := its0) ?hh ?F ?N ?hm ?hz ?R
  case hh => exact rfl
  case F => walk_at "a"
  case N => walk_at "a"
  case hm => k_mem
  case hz => rw [sizeLine_eq]; (first | lia | omega)
  case R =>
  intro g6
  refine' filterT keepN rfl ?f1 ?f2 ?f3 ?f4 ?f5
  case f1 => rfl
  case f2 => decide
  case f3 => exact .inr ⟨_, by k_mem, rfl, _, rfl⟩
  case f4 =>
   intro i v I oI Cc oC Dd ys m₂ h tk E' hv hC hm F N off ne
   obtain ⟨x, tx, rfl, hx⟩ := strs_item sA0 (by simpa using hv)
   walk_at "my steps"
   refine' test_end (by walk_at "a") (by walk_at "a") ?tp ?ts
   case ts => intro q hq; exact .tail _ hq
   case tp => exact nm_eq
  case f5 =>
  intro D6 h6 tk6 F6 N6 o6
  obtain ⟨v6, hy6, sy6⟩ : ∃ ys, List.filter keepN its0.toList = ys ∧ StrsAre ys ((rowsS ms).1.filter isNm) := ⟨_, rfl, filter_nm sA0⟩
  rw [hy6] at N6
  refine' comp_end_made F6 N6 o6 ?v1 ?v2 ?v3
  case v1 => simp only [LCg.Off3, and_true]; walk_at "a"
  case v2 => exact .inr ⟨_, by k_mem, rfl, _, rfl⟩
  case v3 =>
  walk_at "my steps"
  refine' LCt.ListComp_T (L := s.heap.objs.size) (h₀ := ghostOf s.heap [(396, 394)]) ?u0 ?u1 ?u2 ?u3 ?u4 ?u5 ?u6 ?u7
  case u0 => walk_at "a"
  case u1 => with_unfolding_all rfl
  case u2 => decide
  case u3 => rfl
  case u4 => decide
  case u5 => rfl
  case u7 => intro _; rfl
  case u6 =>
  walk_at "my steps"
  refine' LCt.CompSrcT.ledger (its := its1) ?hh ?F ?N ?hm ?hz ?R
  case hh => exact rfl
  case F => walk_at "a"
  case N => walk_at "a"
  case hm => k_mem
  case hz => rw [sizeLine_eq]; (first | lia | omega)
  case R =>
  intro g7
  refine' filterT keepN rfl ?f1 ?f2 ?f3 ?f4 ?f5
  case f1 => rfl
  case f2 => decide
  case f3 => exact .inr ⟨_, by k_mem, rfl, _, rfl⟩
  case f4 =>
   intro i v I oI Cc oC Dd ys m₂ h tk E' hv hC hm F N off ne
   obtain ⟨x, tx, rfl, hx⟩ := strs_item sA1 (by simpa using hv)
   walk_at "my steps"
   refine' test_end (by walk_at "a") (by walk_at "a") ?tp ?ts
   case ts => intro q hq; exact .tail _ hq
   case tp => exact nm_eq
  case f5 =>
  intro D7 h7 tk7 F7 N7 o7
  obtain ⟨v7, hy7, sy7⟩ : ∃ ys, List.filter keepN its1.toList = ys ∧ StrsAre ys ((rowsS ms).2.filter isNm) := ⟨_, rfl, filter_nm sA1⟩
  rw [hy7] at N7
  refine' comp_end_made F7 N7 o7 ?v1 ?v2 ?v3
  case v1 => simp only [LCg.Off3, and_true]; walk_at "a"
  case v2 => exact .inr ⟨_, by k_mem, rfl, _, rfl⟩
  case v3 =>
  repeat' ((fail_if_success with_reducible show wpAny _ _ (execs [_, _, _, _, _, _, _] _) _ _ _); walk_at "my step1")
  rename Fr _ _ _ _ => F
  rename News _ _ _ _ => N
  refine' cut_exec (law_b (fa := D6) (lb := D7) (l := l) (l0 := l0) (l1 := l1) (k := k) (n0 := n0) (n1 := n1) (va := v6) (vb := v7) (its0 := its0) (its1 := its1) C ?R F (news_sub N ?sub) TG CH sA0 sA1 (rowOk okA pA) (rowOk okB pB) sy6 sy7 ?q1 ?q2 ?q3) ?_
  case R => exact Room.le R (by decide)
  case sub => intro q hq; simp only [List.mem_cons, List.not_mem_nil, or_false] at hq ⊢; rcases hq with h | h | h | h | h | h <;> simp only [h, true_or, or_true]
  case q1 => walk_at "my look"
  case q2 => walk_at "my look"
  case q3 => walk_at "my look"
  rintro f s' ⟨rfl, h9, tk9, ps9, rfl, K9, g9⟩
  exact ⟨rfl, fun b o hb e => K9 b o (G0 b o hb e), ⟨_, g9⟩, rfl, hg⟩)
end zB
theorem zK : zP w s a vs ns mean mg0 mb0 := zB.zQ.2 fun D1 zy2 D2 h3 ms h4 tk4 l l0 l1 k its0 n0 its1 n1 => zB.zA zB.zK (putY [⟨0, D1⟩, ⟨0, zy2⟩, ⟨0, D2⟩, ⟨2, h3⟩, ⟨41, ms⟩, ⟨2, h4⟩, ⟨0, tk4⟩, ⟨0, l⟩, ⟨0, l0⟩, ⟨0, l1⟩, ⟨0, k⟩, ⟨29, its0⟩, ⟨0, n0⟩, ⟨29, its1⟩, ⟨0, n1⟩])
end claw0
end
theorem law0 {w : World} {s : Shared} {a : Addr} {vs : List Value} {ns : List Int} {mean : ExcName → Option Value} {mg0 mb0 : Str → Option Value} : claw0.zP w s a vs ns mean mg0 mb0 := claw0.zA claw0.zK (putY [⟨1, w⟩, ⟨5, s⟩, ⟨0, a⟩, ⟨4, vs⟩, ⟨41, ns⟩, ⟨44, mean⟩, ⟨6, mg0⟩, ⟨6, mb0⟩])
theorem law_ : LawWalk := fun _ _ _ _ _ X0 la sa zn ⟨_, _, _, TT⟩ hT hg => law0 X0 la sa zn TT hT hg
end
end Pd88.Internal
theorem PySem.Challenge.cw_pd0088_01_holds : PySem.Challenge.rw_pd0088_01.Holds :=
 Pd88.Internal.holds_of_walk Pd88.Internal.law_
