import PyProof.Rows.All
import Wide.All
import OpenK.AllK
import Wide.FinOn
import Lean
import PySem.Challenge.RW_to0001_01
set_option Elab.async false
section
open PySem PySem.W PyProof.Rows
set_option Elab.async false
namespace Mine
/-- hands a number on as a written one -/
def natF {R : Type} (n : Nat) (k : Nat → R) : R := match n with
  | 0 => k 0
  | m + 1 => k (Nat.succ m)
theorem natF_eq {R : Type} (n : Nat) (k : Nat → R) : natF n k = k n := by cases n <;> rfl
def intF {R : Type} (i : Int) (k : Int → R) : R := match i with
  | .ofNat n => natF n fun n => k (.ofNat n)
  | .negSucc n => natF n fun n => k (.negSucc n)
theorem intF_eq {R : Type} (n : Int) (k : Int → R) : intF n k = k n := by cases n <;> (unfold intF; dsimp only; rw [natF_eq])
def valF {R : Type} (v : Value) (k : Value → R) : R := match v with
  | .int i t => intF i fun i => natF t fun t => k (.int i t)
  | .none => k .none
  | .bool b => k (.bool b)
  | .str s t => k (.str s t)
  | .ref a => k (.ref a)
  | v => k v
theorem valF_eq {R : Type} (v : Value) (k : Value → R) : valF v k = k v := by
  cases v <;> first | rfl | (unfold valF; dsimp only; rw [intF_eq, natF_eq])
def natsF {R : Type} (l : List Nat) (k : List Nat → R) : R := match l with
  | [] => k []
  | a :: r => natF a fun a => natsF r fun r => k (a :: r)
theorem natsF_eq {R : Type} : ∀ (l : List Nat) (k : List Nat → R), natsF l k = k l
  | [], _ => rfl
  | a :: r, k => by unfold natsF; rw [natF_eq, natsF_eq r]
def entsF {R : Type} (l : List (Int × Value)) (k : List (Int × Value) → R) : R := match l with
  | [] => k []
  | (i, v) :: r => intF i fun i => valF v fun v => entsF r fun r => k ((i, v) :: r)
theorem entsF_eq {R : Type} : ∀ (l : List (Int × Value)) (k : List (Int × Value) → R), entsF l k = k l
  | [], _ => rfl
  | (i, v) :: r, k => by unfold entsF; rw [intF_eq, valF_eq, entsF_eq r]
def valsF {R : Type} (l : List Value) (k : List Value → R) : R := match l with
  | [] => k []
  | v :: r => valF v fun v => valsF r fun r => k (v :: r)
theorem valsF_eq {R : Type} : ∀ (l : List Value) (k : List Value → R), valsF l k = k l
  | [], _ => rfl
  | v :: r, k => by unfold valsF; rw [valF_eq, valsF_eq r]
def objF {R : Type} (o : Obj) (k : Obj → R) : R := match o with
  | ⟨c, d, data, sl⟩ => match data with
    | .set ⟨es⟩ n ⟨mask, ⟨pl⟩, ⟨du⟩, fi, led, mo, plain⟩ => entsF es fun es => natF n fun n => natF mask fun mask => natsF pl fun pl => natsF du fun du => natF fi fun fi => natF mo fun mo =>
        k ⟨c, d, .set ⟨es⟩ n ⟨mask, ⟨pl⟩, ⟨du⟩, fi, led, mo, plain⟩, sl⟩
    | .seq ⟨vs⟩ n => valsF vs fun vs => natF n fun n => k ⟨c, d, .seq ⟨vs⟩ n, sl⟩
    | .fields ⟨vs⟩ => valsF vs fun vs => k ⟨c, d, .fields ⟨vs⟩, sl⟩
    | data => k ⟨c, d, data, sl⟩
theorem objF_eq {R : Type} (o : Obj) (k : Obj → R) : objF o k = k o := by
  obtain ⟨c, d, data, sl⟩ := o
  cases data <;> try rfl
  case seq vs n => obtain ⟨vs⟩ := vs; unfold objF; dsimp only; rw [valsF_eq, natF_eq]
  case fields vs => obtain ⟨vs⟩ := vs; unfold objF; dsimp only; rw [valsF_eq]
  case set es n t =>
    obtain ⟨es⟩ := es
    obtain ⟨mask, ⟨pl⟩, ⟨du⟩, fi, led, mo, plain⟩ := t
    unfold objF
    dsimp only
    rw [entsF_eq, natF_eq, natF_eq, natsF_eq, natsF_eq, natF_eq, natF_eq]
def setF {R : Type} (t : BT) (i : Nat) (o : Obj) (k : BT → R) : R := match t with
  | .nil => k .nil
  | .node v l r => match Nat.beq i 0 with
    | true => k (.node o l r)
    | false => match Nat.beq (i % 2) 1 with
      | true => setF l (i / 2) o fun l => k (.node v l r)
      | false => setF r (i / 2 - 1) o fun r => k (.node v l r)
theorem setF_eq {R : Type} (o : Obj) (f : Obj → Obj) : ∀ (t : BT) (i : Nat) (k : BT → R) (v : Obj), t.get i = some v → f v = o → setF t i o k = k (t.set i f)
  | .nil, _, _, _, h, _ => by cases h
  | .node v l r, i, k, x, h, e => by
    unfold setF BT.set
    unfold BT.get at h
    cases q : Nat.beq i 0 with
    | true => rw [q] at h; obtain rfl := Option.some.inj h; rw [← e]
    | false =>
      rw [q] at h
      dsimp only at h ⊢
      cases p : Nat.beq (i % 2) 1 with
      | true => rw [p] at h; exact setF_eq o f l _ _ x h e
      | false => rw [p] at h; exact setF_eq o f r _ _ x h e
def insF {R : Type} (t : BT) (i : Nat) (o : Obj) (k : BT → R) : R := match t with
  | .nil => k (.node o .nil .nil)
  | .node v l r => match Nat.beq i 0 with
    | true => k (.node o l r)
    | false => match Nat.beq (i % 2) 1 with
      | true => insF l (i / 2) o fun l => k (.node v l r)
      | false => insF r (i / 2 - 1) o fun r => k (.node v l r)
theorem insF_eq {R : Type} (o : Obj) : ∀ (t : BT) (i : Nat) (k : BT → R), insF t i o k = k (t.ins i o)
  | .nil, _, _ => rfl
  | .node v l r, i, k => by
    unfold insF BT.ins
    cases q : Nat.beq i 0 with
    | true => rfl
    | false =>
      dsimp only
      cases p : Nat.beq (i % 2) 1 with
      | true => exact insF_eq o l _ _
      | false => exact insF_eq o r _ _

abbrev StepFn := (Code → Sem Fin) → Program → World → Shared → Thread → Step
def stepF {R : Type} (stp : StepFn) (den : Code → Sem Fin) (p : Program) (w : World) (s : SharedT) (t : Thread) (K : SharedT → Thread → Option R) : Option R := match s, t with
  | ⟨T, n, life, gens, drawn, toks, os⟩, ⟨cur, code, pos, stack⟩ => match cur with
    | .load a _ k => match Nat.blt a n with
      | true => match T.get a with
        | some o => match alive o with
          | some o' => K ⟨T, n, life, gens, drawn, toks, os⟩ ⟨k o', code, pos, stack⟩
          | none => none
        | none => none
      | false => none
    | .update a _ f k => match Nat.blt a n with
      | true => match T.get a with
        | some o => match alive o with
          | some _ => objF (f o) fun o' => setF T a o' fun T' => K ⟨T', n, life, gens, drawn, toks, os⟩ ⟨k (), code, pos, stack⟩
          | none => none
        | none => none
      | false => none
    | .alloc o k => match ((T.ins n o).get n).isSome with
      | true => objF o fun o' => insF T n o' fun T' => natF (n + 1) fun n' => K ⟨T', n', life, gens, drawn, toks, os⟩ ⟨k n, code, pos, stack⟩
      | false => none
    | .loadIfAlive a k => match Nat.blt a n with
      | true => match T.get a with
        | some o => K ⟨T, n, life, gens, drawn, toks, os⟩ ⟨k (alive o), code, pos, stack⟩
        | none => none
      | false => K ⟨T, n, life, gens, drawn, toks, os⟩ ⟨k none, code, pos, stack⟩
    | c => match stp den p w ⟨{}, gens, drawn, toks, os⟩ ⟨c, code, pos, stack⟩ with
      | .go s' t' => natF s'.toks fun toks' => K ⟨T, n, life, s'.gens, s'.drawn, toks', s'.os⟩ t'
      | .halt _ _ => none
theorem stepF_eq {R : Type} (den : Code → Sem Fin) (p : Program) (w : World) (s : SharedT) (t : Thread) (K : SharedT → Thread → Option R) :
    stepF PySem.step den p w s t K = (stepT den p w s t).bind fun x => K x.1 x.2 := by
  obtain ⟨T, n, life, gens, drawn, toks, os⟩ := s
  obtain ⟨cur, code, pos, stack⟩ := t
  cases cur
  case load a q k =>
    unfold stepF stepT
    dsimp only
    cases Nat.blt a n with
    | false => rfl
    | true =>
      dsimp only
      cases T.get a with
      | none => rfl
      | some o =>
        dsimp only
        cases alive o <;> rfl
  case update a q f k =>
    unfold stepF stepT
    dsimp only
    cases Nat.blt a n with
    | false => rfl
    | true =>
      dsimp only
      cases e : T.get a with
      | none => rfl
      | some o =>
        dsimp only
        cases alive o with
        | none => rfl
        | some o' =>
          dsimp only
          rw [objF_eq, setF_eq (f o) f T a _ o e rfl]
          rfl
  case alloc o k =>
    unfold stepF stepT
    dsimp only
    cases ((T.ins n o).get n).isSome with
    | false => rfl
    | true => dsimp only; rw [objF_eq, insF_eq, natF_eq]; rfl
  case loadIfAlive a k =>
    unfold stepF stepT
    dsimp only
    cases Nat.blt a n with
    | false => rfl
    | true =>
      dsimp only
      cases T.get a <;> rfl
  all_goals
    unfold stepF stepT
    dsimp only
    split
    · rename_i h; rw [h, natF_eq]; rfl
    · rename_i h; rw [h]; rfl

def topRunF (stp : StepFn) (ok : Nat → Option Value → Thread → Bool) (den : Code → Sem Fin) (p : Program) (w : World) (n₀ : Nat) (ann : Option Value) : Nat → SharedT → Thread → Option SharedT
  | 0, _, _ => none
  | n + 1, s, t => match through t with
    | true => some s
    | false => match ok n₀ ann t with
      | false => none
      | true => stepF stp den p w s t (topRunF stp ok den p w n₀ ann n)
theorem topRunF_spec {tb : String → Option Builtin} {p : Program} {w : World} {n₀ : Nat} {ann : Option Value} : ∀ (n : Nat) (s s' : SharedT) (t : Thread),
    topRunF PySem.step stepOk (denote tb) p w n₀ ann n s t = some s' → topRun tb p w n₀ ann n s.abs t = some s'.abs
  | 0, _, _, _, h => by cases h
  | n + 1, s, s', t, h => by
    unfold topRunF at h
    unfold topRun
    cases ht : through t with
    | true => rw [ht] at h; cases h; rfl
    | false =>
      rw [ht] at h
      dsimp only at h ⊢
      cases hk : stepOk n₀ ann t with
      | false => rw [hk] at h; cases h
      | true =>
        rw [hk] at h
        dsimp only at h ⊢
        rw [stepF_eq] at h
        cases hs : stepT (denote tb) p w s t with
        | none => rw [hs] at h; cases h
        | some r =>
          obtain ⟨s₂, t₂⟩ := r
          rw [hs] at h
          rw [stepT_spec hs]
          exact topRunF_spec n s₂ s' t₂ h
end Mine
end
section
open PySem PySem.W PyProof.Rows
set_option Elab.async false
namespace Mine
open SetTable
def insQ {α : Type} (xs : Array α) (p : Nat) (x : α) : Array α := ⟨xs.toList.take p ++ x :: xs.toList.drop p⟩
theorem insQ_eq {α : Type} : @SetTable.insertAt α = @insQ α := by
  funext xs p x
  apply Array.ext'
  unfold SetTable.insertAt insQ
  simp
  rw [List.take_of_length_le (by simp)]
def scanQ (x : Value) (es : Array (Int × Value)) : Bool := x.scannable && es.size < scanBound && es.toList.all (·.2.scannable)
theorem scanQ_eq : byScan = scanQ := by
  funext x es
  unfold byScan scanQ
  rw [Array.all_toList]

def lsetF {R : Type} (l : List (Option Nat)) (j : Nat) (v : Option Nat) (k : List (Option Nat) → R) : R := match l with
  | [] => k []
  | a :: r => match j with
    | 0 => k (v :: r)
    | j + 1 => lsetF r j v fun r => k (a :: r)
theorem lsetF_eq {R : Type} (v : Option Nat) : ∀ (l : List (Option Nat)) (j : Nat) (k : List (Option Nat) → R), lsetF l j v k = k (l.set j v)
  | [], _, _ => rfl
  | a :: r, 0, _ => rfl
  | a :: r, j + 1, k => by unfold lsetF; dsimp only; rw [lsetF_eq v r]; rfl
def layGo {R : Type} (mask : Nat) (l : List Int) (owner : List (Option Nat)) (k : Nat) (K : Option (List (Option Nat)) → R) : R := match l with
  | [] => K (some owner)
  | h :: hs => match SetTable.layClean.free mask ⟨owner⟩ (turns mask) (bits h % (mask + 1)) (bits h) with
    | none => K none
    | some j => natF j fun j => lsetF owner j (some k) fun owner => natF (k + 1) fun k => layGo mask hs owner k K
def stepL (mask : Nat) (acc : Option (Array (Option Nat) × Nat)) (h : Int) : Option (Array (Option Nat) × Nat) := do
  let (owner, k) ← acc
  let j ← SetTable.layClean.free mask owner (turns mask) (bits h % (mask + 1)) (bits h)
  pure (owner.setIfInBounds j (some k), k + 1)
theorem stepL_none (mask : Nat) : ∀ l : List Int, l.foldl (stepL mask) none = none
  | [] => rfl
  | _ :: r => stepL_none mask r
theorem layGo_eq {R : Type} (mask : Nat) : ∀ (l : List Int) (owner : List (Option Nat)) (k : Nat) (K : Option (List (Option Nat)) → R),
    layGo mask l owner k K = K ((l.foldl (stepL mask) (some (⟨owner⟩, k))).map fun x => x.1.toList)
  | [], _, _, _ => rfl
  | h :: hs, owner, k, K => by
    unfold layGo
    rw [List.foldl_cons]
    have e : stepL mask (some (⟨owner⟩, k)) h = (SetTable.layClean.free mask ⟨owner⟩ (turns mask) (bits h % (mask + 1)) (bits h)).bind fun j => some ((⟨owner⟩ : Array (Option Nat)).setIfInBounds j (some k), k + 1) := rfl
    rw [e]
    cases SetTable.layClean.free mask ⟨owner⟩ (turns mask) (bits h % (mask + 1)) (bits h) with
    | none => dsimp only [Option.bind]; rw [stepL_none]; rfl
    | some j =>
      dsimp only [Option.bind]
      rw [natF_eq, lsetF_eq, natF_eq, layGo_eq mask hs]
      rw [show (⟨owner⟩ : Array (Option Nat)).setIfInBounds j (some k) = ⟨owner.set j (some k)⟩ from by apply Array.ext'; simp]
def liveL : List (Option Nat) → Nat → List (Nat × Nat)
  | [], _ => []
  | none :: r, j => liveL r (j + 1)
  | some k :: r, j => (j, k) :: liveL r (j + 1)
theorem liveL_eq : ∀ (l : List (Option Nat)) (b : Nat), liveL l b = (List.range l.length).filterMap fun j => (l.getD j none).map (j + b, ·)
  | [], _ => rfl
  | x :: r, b => by
    rw [List.length_cons, List.range_succ_eq_map, List.filterMap_cons, List.filterMap_map]
    have e : (fun j => (List.getD r j none).map (j + (b + 1), ·)) = (fun j => (List.getD (x :: r) j none).map (j + b, ·)) ∘ Nat.succ := by
      funext j
      simp only [Function.comp, List.getD_cons_succ]
      rw [show j + (b + 1) = j.succ + b by omega]
    rw [← e, ← liveL_eq r (b + 1)]
    cases x with
    | none => rfl
    | some k => simp [liveL]
theorem layClean_length (mask : Nat) : ∀ (l : List Int) (o : Array (Option Nat)) (k : Nat) (r : Array (Option Nat) × Nat), l.foldl (stepL mask) (some (o, k)) = some r → r.1.size = o.size
  | [], o, k, r, h => by cases h; rfl
  | h :: hs, o, k, r, q => by
    rw [List.foldl_cons] at q
    have e : stepL mask (some (o, k)) h = (SetTable.layClean.free mask o (turns mask) (bits h % (mask + 1)) (bits h)).bind fun j => some (o.setIfInBounds j (some k), k + 1) := rfl
    rw [e] at q
    cases c : SetTable.layClean.free mask o (turns mask) (bits h % (mask + 1)) (bits h) with
    | none => rw [c] at q; dsimp only [Option.bind] at q; rw [stepL_none] at q; cases q
    | some j => rw [c] at q; dsimp only [Option.bind] at q; rw [layClean_length mask hs _ _ _ q]; simp
def laidQ (mask finger moves : Nat) (led plain : Bool) (hashes : Array Int) : Option (SetTable × Array Nat) :=
  layGo mask hashes.toList (List.replicate (mask + 1) none) 0 fun o => match o with
    | none => none
    | some owner => some ({ mask, place := ((liveL owner 0).map (·.1)).toArray, dummies := #[], finger, led, moves, plain }, ((liveL owner 0).map (·.2)).toArray)
theorem laidQ_eq : SetTable.laid = laidQ := by
  funext mask finger moves led plain hashes
  unfold laidQ
  rw [layGo_eq]
  have e : SetTable.layClean mask hashes = (hashes.toList.foldl (stepL mask) (some (⟨List.replicate (mask + 1) none⟩, 0))).map (·.1) := by
    unfold SetTable.layClean
    rw [← Array.foldl_toList]
    rfl
  unfold SetTable.laid
  rw [e]
  cases q : hashes.toList.foldl (stepL mask) (some (⟨List.replicate (mask + 1) none⟩, 0)) with
  | none => rfl
  | some r =>
    have hs := layClean_length mask _ _ _ _ q
    simp only [List.size_toArray, List.length_replicate] at hs
    obtain ⟨⟨o⟩, k⟩ := r
    simp only [List.size_toArray] at hs
    show some _ = some _
    have l : ((List.range (mask + 1)).filterMap fun j => ((⟨o⟩ : Array (Option Nat)).getD j none).map (j, ·)) = liveL o 0 := by
      rw [liveL_eq, hs]
      congr 1
      funext j
      simp
    dsimp only
    rw [l]
end Mine
end
section
open PySem PySem.W PyProof.Rows
set_option Elab.async false
set_option maxRecDepth 100000
namespace Mine
theorem insE : @Fast.tw6250550593420942560 = @insQ := by funext α; exact (congrFun (Fast.te6250550593420942560 ▸ rfl) α).trans insQ_eq
noncomputable def putQ : { f // Fast.tw12466709759006461402 = f } := by
  refine ⟨?f, ?h⟩
  case h => delta Fast.tw12466709759006461402; rw [insE]
noncomputable def layNewQ : { f // Fast.tw89073463820356996 = f } := by
  refine ⟨?f, ?h⟩
  case h => delta Fast.tw89073463820356996; rw [insE, putQ.2]
theorem laidE : Fast.tw15858942944536088197 = laidQ := (Fast.te15858942944536088197).symm.trans laidQ_eq
noncomputable def relaidQ : { f // Fast.tw6869694533263656991 = f } := by
  refine ⟨?f, ?h⟩
  case h => delta Fast.tw6869694533263656991; rw [laidE]
noncomputable def relayAllQ : { f // Fast.tw7057874960865805170 = f } := by
  refine ⟨?f, ?h⟩
  case h => delta Fast.tw7057874960865805170; rw [relaidQ.2]
noncomputable def addByScanQ : { f // Fast.tw93129132117342410 = f } := by
  refine ⟨?f, ?h⟩
  case h => delta Fast.tw93129132117342410; rw [layNewQ.2, relayAllQ.2]
noncomputable def addFQ : { f // Fast.tw4328697075774883827 = f } := by
  refine ⟨?f, ?h⟩
  case h => delta Fast.tw4328697075774883827; rw [addByScanQ.2, scanQ_eq]
noncomputable def addInQ : { f // Fast.tw1802229478528348949 = f } := by
  refine ⟨?f, ?h⟩
  case h => delta Fast.tw1802229478528348949; rw [addFQ.2]
noncomputable def addHashedQ : { f // Fast.tw16065284519293194179 = f } := by
  refine ⟨?f, ?h⟩
  case h => delta Fast.tw16065284519293194179; rw [addInQ.2]
noncomputable def addQ : { f // Fast.tw5518019106960326183 = f } := by
  refine ⟨?f, ?h⟩
  case h => delta Fast.tw5518019106960326183; rw [addHashedQ.2]
noncomputable def loopQ : { f // Fast.tw14453038532278432606 = f } := by
  refine ⟨?f, ?h⟩
  case h => delta Fast.tw14453038532278432606; rw [addQ.2]
noncomputable def tabQ (id : String) : Option Builtin := @ite _ (id = "set.update.loop") (S.strDecS id "set.update.loop") (some loopQ.1) (Fast.tw14364793385576792824 id)
theorem tabQ_eq : tabQ = treeTable := by
  funext id
  unfold tabQ
  split
  · rename_i h
    subst h
    have : treeTable "set.update.loop" = some Builtin.«set.update.loop» := by kernel_rfl
    rw [this, ← loopQ.2, ← Fast.te14453038532278432606]
  · rw [← Fast.te14364793385576792824]
noncomputable def denQ : Code → Sem Fin := Fast.tw11892475500146522536 tabQ
theorem denQ_eq : denQ = denote treeTable := by unfold denQ; rw [tabQ_eq, ← Fast.te11892475500146522536]
theorem topRunQ_spec {p : Program} {w : World} {n₀ : Nat} {ann : Option Value} {n : Nat} {s s' : SharedT} {t : Thread}
    (h : topRunF Fast.tw8437177126325714943 Fast.tw6613529449190102663 denQ p w n₀ ann n s t = some s') : topRun treeTable p w n₀ ann n s.abs t = some s'.abs := by
  rw [denQ_eq, ← Fast.te8437177126325714943, ← Fast.te6613529449190102663] at h
  exact topRunF_spec n s s' t h
end Mine
end
section
open PySem PySem.W PyProof.Rows
set_option Elab.async false
set_option maxRecDepth 100000
namespace Mine
/-- the program's k-th def as the object that its run makes -/
noncomputable def fnObj (k : Nat) (g : Addr) (pm cd : Value) (bi : Addr) : FuncData := match PySem.Challenge.pw_to0001_01.main.body[k]? with
  | some (.FunctionDef n a b _ _ _ sc _ _ _) => { name := n, qualname := n, params := a, body := .stmts b, scope := sc, globals := g, closure := [], defaults := .none, kwdefaults := .none, pyModule := pm, code := cd, builtins := bi }
  | _ => default
noncomputable abbrev o0 (P : Params) : Obj := boot_o_0 P
noncomputable abbrev o1 (P : Params) : Obj := boot_o_1 P
noncomputable abbrev o2 (P : Params) : Obj := boot_o_2 P
noncomputable def o3 (P : Params) : Obj := ⟨(.type "dict"), none, (.dict ⟨[⟨PyData.keyHash P (Str.ofString "__name__"), .str (Str.ofString "__name__") 165, (.str (Str.ofString "law_to0001_01") 592)⟩, ⟨PyData.keyHash P (Str.ofString "__doc__"), .str (Str.ofString "__doc__") 166, .none⟩, ⟨PyData.keyHash P (Str.ofString "__package__"), .str (Str.ofString "__package__") 167, .none⟩, ⟨PyData.keyHash P (Str.ofString "__loader__"), .str (Str.ofString "__loader__") 168, (.builtin "__main__.__loader__#opaque")⟩, ⟨PyData.keyHash P (Str.ofString "__spec__"), .str (Str.ofString "__spec__") 169, .none⟩, ⟨PyData.keyHash P (Str.ofString "__annotations__"), .str (Str.ofString "__annotations__") 170, (.ref 6)⟩, ⟨PyData.keyHash P (Str.ofString "__builtins__"), .str (Str.ofString "__builtins__") 171, (.ref 4)⟩, ⟨PyData.keyHash P (Str.ofString "__file__"), .str (Str.ofString "__file__") 173, (.str (Str.ofString "/claim/cut.py") 172)⟩, ⟨PyData.keyHash P (Str.ofString "__cached__"), .str (Str.ofString "__cached__") 174, .none⟩, ⟨PyData.keyHash P (Str.ofString "b1_set"), .str (Str.ofString "b1_set") 248, (.ref 22)⟩, ⟨PyData.keyHash P (Str.ofString "in_table_b1"), .str (Str.ofString "in_table_b1") 255, (.ref 32)⟩, ⟨PyData.keyHash P (Str.ofString "c6_set"), .str (Str.ofString "c6_set") 269, (.ref 34)⟩, ⟨PyData.keyHash P (Str.ofString "in_table_c6"), .str (Str.ofString "in_table_c6") 276, (.ref 44)⟩, ⟨PyData.keyHash P (Str.ofString "c7_set"), .str (Str.ofString "c7_set") 304, (.ref 46)⟩, ⟨PyData.keyHash P (Str.ofString "in_table_c7"), .str (Str.ofString "in_table_c7") 311, (.ref 56)⟩, ⟨PyData.keyHash P (Str.ofString "c9_set"), .str (Str.ofString "c9_set") 511, (.ref 64)⟩, ⟨PyData.keyHash P (Str.ofString "in_table_c9"), .str (Str.ofString "in_table_c9") 518, (.ref 74)⟩, ⟨PyData.keyHash P (Str.ofString "rgb_to_hsv"), .str (Str.ofString "rgb_to_hsv") 538, (.ref 81)⟩, ⟨PyData.keyHash P (Str.ofString "lt"), .str (Str.ofString "lt") 548, (.ref 88)⟩, ⟨PyData.keyHash P (Str.ofString "floordiv"), .str (Str.ofString "floordiv") 556, (.ref 95)⟩, ⟨PyData.keyHash P (Str.ofString "mul"), .str (Str.ofString "mul") 564, (.ref 102)⟩, ⟨PyData.keyHash P (Str.ofString "sub"), .str (Str.ofString "sub") 572, (.ref 109)⟩, ⟨PyData.keyHash P (Str.ofString "countOf"), .str (Str.ofString "countOf") 582, (.ref 116)⟩, ⟨PyData.keyHash P (Str.ofString "setitem"), .str (Str.ofString "setitem") 591, (.ref 123)⟩, ⟨PyData.keyHash P (Str.ofString "_law_votes"), .str (Str.ofString "_law_votes") 599, (.ref 128)⟩, ⟨PyData.keyHash P (Str.ofString "_law_lead"), .str (Str.ofString "_law_lead") 609, (.ref 135)⟩, ⟨PyData.keyHash P (Str.ofString "_law_spelled"), .str (Str.ofString "_law_spelled") 618, (.ref 142)⟩, ⟨PyData.keyHash P (Str.ofString "_law_read"), .str (Str.ofString "_law_read") 627, (.ref 149)⟩, ⟨PyData.keyHash P (Str.ofString "_law_within"), .str (Str.ofString "_law_within") 638, (.ref 156)⟩, ⟨PyData.keyHash P (Str.ofString "_law_ways"), .str (Str.ofString "_law_ways") 651, (.ref 163)⟩, ⟨PyData.keyHash P (Str.ofString "_law_signed"), .str (Str.ofString "_law_signed") 668, (.ref 170)⟩, ⟨PyData.keyHash P (Str.ofString "_law_rank"), .str (Str.ofString "_law_rank") 677, (.ref 177)⟩, ⟨PyData.keyHash P (Str.ofString "law"), .str (Str.ofString "law") 683, (.ref 182)⟩]⟩ 33), ⟨[]⟩⟩
noncomputable abbrev o4 (P : Params) : Obj := boot_o_4 P
noncomputable abbrev o5 (P : Params) : Obj := boot_o_5 P
noncomputable abbrev o6 (P : Params) : Obj := boot_o_6 P
noncomputable abbrev o7 (P : Params) : Obj := boot_o_7 P
noncomputable abbrev o8 (P : Params) : Obj := boot_o_8 P
noncomputable abbrev o9 (P : Params) : Obj := boot_o_9 P
noncomputable abbrev o10 (P : Params) : Obj := boot_o_10 P
noncomputable def o11 (P : Params) : Obj := ⟨(.type "tuple"), none, (.seq ⟨[]⟩ 0), ⟨[]⟩⟩
noncomputable def o12 (P : Params) : Obj := ⟨.none, none, (.fields ⟨[(.int 3 0), (.int 0 0), (.ref 31), (.int 6 0), (.int 0 0), (.ref 43), (.int 9 0), (.int 0 0), (.ref 55), (.int 12 0), (.int 0 0), (.ref 73), (.int 15 0), (.int 0 0), (.ref 80), (.int 35 0), (.int 0 0), (.ref 87), (.int 37 0), (.int 0 0), (.ref 94), (.int 39 0), (.int 0 0), (.ref 101), (.int 41 0), (.int 0 0), (.ref 108), (.int 43 0), (.int 0 0), (.ref 115), (.int 49 0), (.int 0 0), (.ref 122), (.int 52 0), (.int 0 0), (.ref 127), (.int 56 0), (.int 0 0), (.ref 134), (.int 61 0), (.int 0 0), (.ref 141), (.int 69 0), (.int 0 0), (.ref 148), (.int 81 0), (.int 0 0), (.ref 155), (.int 85 0), (.int 0 0), (.ref 162), (.int 98 0), (.int 0 0), (.ref 169), (.int 114 0), (.int 0 0), (.ref 176), (.int 116 0), (.int 0 0), (.ref 181)]⟩), ⟨[]⟩⟩
noncomputable def o13 (P : Params) : Obj := ⟨(.type "code"), none, (.fields ⟨[(.str (Str.ofString "<module>") 182), (.str (Str.ofString "<module>") 183), (.str (Str.ofString "/claim/cut.py") 184), (.int 1 0), (.int 0 0), (.int 0 0), (.int 0 0), (.int 0 0), (.ref 11), (.bool false), (.int 181 0), (.ref 12), .none, .none, .none, .none, (.int 185 0), (.int 1 0), (.str (Str.ofString "/claim/cut.py") 186)]⟩), ⟨[]⟩⟩
noncomputable def o14 (P : Params) : Obj := ⟨(.type "frame"), none, .plain, ⟨[(some (.ref 13)), (some (.ref 3)), (some (.ref 3)), none, (some (.str (Str.ofString "__main__") 164)), none, (some (.ref 0))]⟩⟩
noncomputable def o15 (P : Params) : Obj := ⟨(.type "list"), none, (.seq ⟨[(.int 173 189), (.int 847 190), (.int 6150 191), (.int 6155 192), (.int 6156 193), (.int 6157 194), (.int 8203 195), (.int 8204 196), (.int 8205 197), (.int 8288 198), (.int 65279 199)]⟩ 0), ⟨[]⟩⟩
noncomputable def o16 (P : Params) : Obj := ⟨(.type "range"), none, (.fields ⟨[(.int 65024 200), (.int 65040 201), (.int 1 202)]⟩), ⟨[]⟩⟩
noncomputable def o17 (P : Params) : Obj := ⟨(.type "list"), none, (.seq ⟨[(.int 65024 205), (.int 65025 206), (.int 65026 207), (.int 65027 208), (.int 65028 209), (.int 65029 210), (.int 65030 211), (.int 65031 212), (.int 65032 213), (.int 65033 214), (.int 65034 215), (.int 65035 216), (.int 65036 217), (.int 65037 218), (.int 65038 219), (.int 65039 220)]⟩ 18), ⟨[]⟩⟩
noncomputable def o18 (P : Params) : Obj := ⟨(.type "range_iterator"), none, (.fields ⟨[(.int 65040 0), (.int 0 0), (.int 1 0)]⟩), ⟨[]⟩⟩
noncomputable def o19 (P : Params) : Obj := ⟨(.type "tuple"), none, (.seq ⟨[]⟩ 0), ⟨[]⟩⟩
noncomputable def o20 (P : Params) : Obj := ⟨(.type "StopIteration"), none, (.fields ⟨[(.ref 19), .none, .none, .none, (.bool false), .none]⟩), ⟨[]⟩⟩
noncomputable def o21 (P : Params) : Obj := ⟨(.type "list"), none, (.seq ⟨[(.int 173 189), (.int 847 190), (.int 6150 191), (.int 6155 192), (.int 6156 193), (.int 6157 194), (.int 8203 195), (.int 8204 196), (.int 8205 197), (.int 8288 198), (.int 65279 199), (.int 65024 205), (.int 65025 206), (.int 65026 207), (.int 65027 208), (.int 65028 209), (.int 65029 210), (.int 65030 211), (.int 65031 212), (.int 65032 213), (.int 65033 214), (.int 65034 215), (.int 65035 216), (.int 65036 217), (.int 65037 218), (.int 65038 219), (.int 65039 220)]⟩ 0), ⟨[]⟩⟩
noncomputable def o22 (P : Params) : Obj := ⟨(.type "set"), none, (.set ⟨[(65024, (.int 65024 205)), (65025, (.int 65025 206)), (65026, (.int 65026 207)), (65027, (.int 65027 208)), (65028, (.int 65028 209)), (65029, (.int 65029 210)), (6150, (.int 6150 191)), (65030, (.int 65030 211)), (65031, (.int 65031 212)), (65032, (.int 65032 213)), (65033, (.int 65033 214)), (6155, (.int 6155 192)), (6156, (.int 6156 193)), (6157, (.int 6157 194)), (8203, (.int 8203 195)), (8204, (.int 8204 196)), (8205, (.int 8205 197)), (65034, (.int 65034 215)), (65035, (.int 65035 216)), (65036, (.int 65036 217)), (65037, (.int 65037 218)), (65038, (.int 65038 219)), (65039, (.int 65039 220)), (173, (.int 173 189)), (847, (.int 847 190)), (8288, (.int 8288 198)), (65279, (.int 65279 199))]⟩ 29 ⟨127, ⟨[0, 1, 2, 3, 4, 5, 6, 7, 8, 9, 10, 11, 12, 13, 14, 15, 16, 17, 18, 19, 20, 21, 22, 45, 79, 96, 127]⟩, ⟨[]⟩, 0, !P.followText "set-order", 2, true⟩), ⟨[]⟩⟩
noncomputable def o23 (P : Params) : Obj := ⟨(.type "list_iterator"), none, (.fields ⟨[.none, (.int 27 0)]⟩), ⟨[]⟩⟩
noncomputable def o24 (P : Params) : Obj := ⟨(.type "tuple"), none, (.seq ⟨[]⟩ 0), ⟨[]⟩⟩
noncomputable def o25 (P : Params) : Obj := ⟨(.type "StopIteration"), none, (.fields ⟨[(.ref 24), .none, .none, .none, (.bool false), .none]⟩), ⟨[]⟩⟩
noncomputable def o26 (P : Params) : Obj := ⟨(.type "tuple"), none, (.seq ⟨[]⟩ 0), ⟨[]⟩⟩
noncomputable def o27 (P : Params) : Obj := ⟨.none, none, (.fields ⟨[]⟩), ⟨[]⟩⟩
noncomputable def o28 (P : Params) : Obj := ⟨(.type "tuple"), none, (.seq ⟨[(.str (Str.ofString "code") 252)]⟩ 0), ⟨[]⟩⟩
noncomputable def o29 (P : Params) : Obj := ⟨(.type "tuple"), none, (.seq ⟨[]⟩ 0), ⟨[]⟩⟩
noncomputable def o30 (P : Params) : Obj := ⟨.none, none, (.func (fnObj 2 0 .none .none 0)), ⟨[]⟩⟩
noncomputable def o31 (P : Params) : Obj := ⟨(.type "code"), none, (.fields ⟨[(.str (Str.ofString "in_table_b1") 249), (.str (Str.ofString "in_table_b1") 250), (.str (Str.ofString "/claim/cut.py") 251), (.int 3 0), (.int 1 0), (.int 0 0), (.int 0 0), (.int 3 0), (.ref 26), (.bool true), (.int 181 0), (.ref 27), .none, (.ref 28), (.ref 29), (.ref 30), (.int 253 0), (.int 3 0), (.str (Str.ofString "/claim/cut.py") 254)]⟩), ⟨[]⟩⟩
noncomputable def o32 (P : Params) : Obj := ⟨(.type "function"), none, (.func (fnObj 2 3 (.str (Str.ofString "cpy313.stringprep") 187) (.ref 31) 0)), ⟨[]⟩⟩
noncomputable def o33 (P : Params) : Obj := ⟨(.type "range"), none, (.fields ⟨[(.int 65529 256), (.int 65534 257), (.int 1 258)]⟩), ⟨[]⟩⟩
noncomputable def o34 (P : Params) : Obj := ⟨(.type "set"), none, (.set ⟨[(65529, (.int 65529 259)), (65530, (.int 65530 261)), (65531, (.int 65531 263)), (65532, (.int 65532 265)), (65533, (.int 65533 267))]⟩ 6 ⟨31, ⟨[25, 26, 27, 28, 29]⟩, ⟨[]⟩, 0, !P.followText "set-order", 1, true⟩), ⟨[]⟩⟩
noncomputable def o35 (P : Params) : Obj := ⟨(.type "range_iterator"), none, (.fields ⟨[(.int 65534 0), (.int 0 0), (.int 1 0)]⟩), ⟨[]⟩⟩
noncomputable def o36 (P : Params) : Obj := ⟨(.type "tuple"), none, (.seq ⟨[]⟩ 0), ⟨[]⟩⟩
noncomputable def o37 (P : Params) : Obj := ⟨(.type "StopIteration"), none, (.fields ⟨[(.ref 36), .none, .none, .none, (.bool false), .none]⟩), ⟨[]⟩⟩
noncomputable def o38 (P : Params) : Obj := ⟨(.type "tuple"), none, (.seq ⟨[]⟩ 0), ⟨[]⟩⟩
noncomputable def o39 (P : Params) : Obj := ⟨.none, none, (.fields ⟨[]⟩), ⟨[]⟩⟩
noncomputable def o40 (P : Params) : Obj := ⟨(.type "tuple"), none, (.seq ⟨[(.str (Str.ofString "code") 273)]⟩ 0), ⟨[]⟩⟩
noncomputable def o41 (P : Params) : Obj := ⟨(.type "tuple"), none, (.seq ⟨[]⟩ 0), ⟨[]⟩⟩
noncomputable def o42 (P : Params) : Obj := ⟨.none, none, (.func (fnObj 4 0 .none .none 0)), ⟨[]⟩⟩
noncomputable def o43 (P : Params) : Obj := ⟨(.type "code"), none, (.fields ⟨[(.str (Str.ofString "in_table_c6") 270), (.str (Str.ofString "in_table_c6") 271), (.str (Str.ofString "/claim/cut.py") 272), (.int 6 0), (.int 1 0), (.int 0 0), (.int 0 0), (.int 3 0), (.ref 38), (.bool true), (.int 181 0), (.ref 39), .none, (.ref 40), (.ref 41), (.ref 42), (.int 274 0), (.int 6 0), (.str (Str.ofString "/claim/cut.py") 275)]⟩), ⟨[]⟩⟩
noncomputable def o44 (P : Params) : Obj := ⟨(.type "function"), none, (.func (fnObj 4 3 (.str (Str.ofString "cpy313.stringprep") 187) (.ref 43) 0)), ⟨[]⟩⟩
noncomputable def o45 (P : Params) : Obj := ⟨(.type "range"), none, (.fields ⟨[(.int 12272 277), (.int 12284 278), (.int 1 279)]⟩), ⟨[]⟩⟩
noncomputable def o46 (P : Params) : Obj := ⟨(.type "set"), none, (.set ⟨[(12272, (.int 12272 280)), (12273, (.int 12273 282)), (12274, (.int 12274 284)), (12275, (.int 12275 286)), (12276, (.int 12276 288)), (12277, (.int 12277 290)), (12278, (.int 12278 292)), (12279, (.int 12279 294)), (12280, (.int 12280 296)), (12281, (.int 12281 298)), (12282, (.int 12282 300)), (12283, (.int 12283 302))]⟩ 13 ⟨31, ⟨[16, 17, 18, 19, 20, 21, 22, 23, 24, 25, 26, 27]⟩, ⟨[]⟩, 0, !P.followText "set-order", 1, true⟩), ⟨[]⟩⟩
noncomputable def o47 (P : Params) : Obj := ⟨(.type "range_iterator"), none, (.fields ⟨[(.int 12284 0), (.int 0 0), (.int 1 0)]⟩), ⟨[]⟩⟩
noncomputable def o48 (P : Params) : Obj := ⟨(.type "tuple"), none, (.seq ⟨[]⟩ 0), ⟨[]⟩⟩
noncomputable def o49 (P : Params) : Obj := ⟨(.type "StopIteration"), none, (.fields ⟨[(.ref 48), .none, .none, .none, (.bool false), .none]⟩), ⟨[]⟩⟩
noncomputable def o50 (P : Params) : Obj := ⟨(.type "tuple"), none, (.seq ⟨[]⟩ 0), ⟨[]⟩⟩
noncomputable def o51 (P : Params) : Obj := ⟨.none, none, (.fields ⟨[]⟩), ⟨[]⟩⟩
noncomputable def o52 (P : Params) : Obj := ⟨(.type "tuple"), none, (.seq ⟨[(.str (Str.ofString "code") 308)]⟩ 0), ⟨[]⟩⟩
noncomputable def o53 (P : Params) : Obj := ⟨(.type "tuple"), none, (.seq ⟨[]⟩ 0), ⟨[]⟩⟩
noncomputable def o54 (P : Params) : Obj := ⟨.none, none, (.func (fnObj 6 0 .none .none 0)), ⟨[]⟩⟩
noncomputable def o55 (P : Params) : Obj := ⟨(.type "code"), none, (.fields ⟨[(.str (Str.ofString "in_table_c7") 305), (.str (Str.ofString "in_table_c7") 306), (.str (Str.ofString "/claim/cut.py") 307), (.int 9 0), (.int 1 0), (.int 0 0), (.int 0 0), (.int 3 0), (.ref 50), (.bool true), (.int 181 0), (.ref 51), .none, (.ref 52), (.ref 53), (.ref 54), (.int 309 0), (.int 9 0), (.str (Str.ofString "/claim/cut.py") 310)]⟩), ⟨[]⟩⟩
noncomputable def o56 (P : Params) : Obj := ⟨(.type "function"), none, (.func (fnObj 6 3 (.str (Str.ofString "cpy313.stringprep") 187) (.ref 55) 0)), ⟨[]⟩⟩
noncomputable def o57 (P : Params) : Obj := ⟨(.type "list"), none, (.seq ⟨[(.int 917505 312)]⟩ 0), ⟨[]⟩⟩
noncomputable def o58 (P : Params) : Obj := ⟨(.type "range"), none, (.fields ⟨[(.int 917536 313), (.int 917632 314), (.int 1 315)]⟩), ⟨[]⟩⟩
noncomputable def o59 (P : Params) : Obj := ⟨(.type "list"), none, (.seq ⟨[(.int 917536 318), (.int 917537 319), (.int 917538 320), (.int 917539 321), (.int 917540 322), (.int 917541 323), (.int 917542 324), (.int 917543 325), (.int 917544 326), (.int 917545 327), (.int 917546 328), (.int 917547 329), (.int 917548 330), (.int 917549 331), (.int 917550 332), (.int 917551 333), (.int 917552 334), (.int 917553 335), (.int 917554 336), (.int 917555 337), (.int 917556 338), (.int 917557 339), (.int 917558 340), (.int 917559 341), (.int 917560 342), (.int 917561 343), (.int 917562 344), (.int 917563 345), (.int 917564 346), (.int 917565 347), (.int 917566 348), (.int 917567 349), (.int 917568 350), (.int 917569 351), (.int 917570 352), (.int 917571 353), (.int 917572 354), (.int 917573 355), (.int 917574 356), (.int 917575 357), (.int 917576 358), (.int 917577 359), (.int 917578 360), (.int 917579 361), (.int 917580 362), (.int 917581 363), (.int 917582 364), (.int 917583 365), (.int 917584 366), (.int 917585 367), (.int 917586 368), (.int 917587 369), (.int 917588 370), (.int 917589 371), (.int 917590 372), (.int 917591 373), (.int 917592 374), (.int 917593 375), (.int 917594 376), (.int 917595 377), (.int 917596 378), (.int 917597 379), (.int 917598 380), (.int 917599 381), (.int 917600 382), (.int 917601 383), (.int 917602 384), (.int 917603 385), (.int 917604 386), (.int 917605 387), (.int 917606 388), (.int 917607 389), (.int 917608 390), (.int 917609 391), (.int 917610 392), (.int 917611 393), (.int 917612 394), (.int 917613 395), (.int 917614 396), (.int 917615 397), (.int 917616 398), (.int 917617 399), (.int 917618 400), (.int 917619 401), (.int 917620 402), (.int 917621 403), (.int 917622 404), (.int 917623 405), (.int 917624 406), (.int 917625 407), (.int 917626 408), (.int 917627 409), (.int 917628 410), (.int 917629 411), (.int 917630 412), (.int 917631 413)]⟩ 98), ⟨[]⟩⟩
noncomputable def o60 (P : Params) : Obj := ⟨(.type "range_iterator"), none, (.fields ⟨[(.int 917632 0), (.int 0 0), (.int 1 0)]⟩), ⟨[]⟩⟩
noncomputable def o61 (P : Params) : Obj := ⟨(.type "tuple"), none, (.seq ⟨[]⟩ 0), ⟨[]⟩⟩
noncomputable def o62 (P : Params) : Obj := ⟨(.type "StopIteration"), none, (.fields ⟨[(.ref 61), .none, .none, .none, (.bool false), .none]⟩), ⟨[]⟩⟩
noncomputable def o63 (P : Params) : Obj := ⟨(.type "list"), none, (.seq ⟨[(.int 917505 312), (.int 917536 318), (.int 917537 319), (.int 917538 320), (.int 917539 321), (.int 917540 322), (.int 917541 323), (.int 917542 324), (.int 917543 325), (.int 917544 326), (.int 917545 327), (.int 917546 328), (.int 917547 329), (.int 917548 330), (.int 917549 331), (.int 917550 332), (.int 917551 333), (.int 917552 334), (.int 917553 335), (.int 917554 336), (.int 917555 337), (.int 917556 338), (.int 917557 339), (.int 917558 340), (.int 917559 341), (.int 917560 342), (.int 917561 343), (.int 917562 344), (.int 917563 345), (.int 917564 346), (.int 917565 347), (.int 917566 348), (.int 917567 349), (.int 917568 350), (.int 917569 351), (.int 917570 352), (.int 917571 353), (.int 917572 354), (.int 917573 355), (.int 917574 356), (.int 917575 357), (.int 917576 358), (.int 917577 359), (.int 917578 360), (.int 917579 361), (.int 917580 362), (.int 917581 363), (.int 917582 364), (.int 917583 365), (.int 917584 366), (.int 917585 367), (.int 917586 368), (.int 917587 369), (.int 917588 370), (.int 917589 371), (.int 917590 372), (.int 917591 373), (.int 917592 374), (.int 917593 375), (.int 917594 376), (.int 917595 377), (.int 917596 378), (.int 917597 379), (.int 917598 380), (.int 917599 381), (.int 917600 382), (.int 917601 383), (.int 917602 384), (.int 917603 385), (.int 917604 386), (.int 917605 387), (.int 917606 388), (.int 917607 389), (.int 917608 390), (.int 917609 391), (.int 917610 392), (.int 917611 393), (.int 917612 394), (.int 917613 395), (.int 917614 396), (.int 917615 397), (.int 917616 398), (.int 917617 399), (.int 917618 400), (.int 917619 401), (.int 917620 402), (.int 917621 403), (.int 917622 404), (.int 917623 405), (.int 917624 406), (.int 917625 407), (.int 917626 408), (.int 917627 409), (.int 917628 410), (.int 917629 411), (.int 917630 412), (.int 917631 413)]⟩ 0), ⟨[]⟩⟩
noncomputable def o64 (P : Params) : Obj := ⟨(.type "set"), none, (.set ⟨[(917505, (.int 917505 312)), (917536, (.int 917536 318)), (917537, (.int 917537 319)), (917538, (.int 917538 320)), (917539, (.int 917539 321)), (917540, (.int 917540 322)), (917541, (.int 917541 323)), (917542, (.int 917542 324)), (917543, (.int 917543 325)), (917544, (.int 917544 326)), (917545, (.int 917545 327)), (917546, (.int 917546 328)), (917547, (.int 917547 329)), (917548, (.int 917548 330)), (917549, (.int 917549 331)), (917550, (.int 917550 332)), (917551, (.int 917551 333)), (917552, (.int 917552 334)), (917553, (.int 917553 335)), (917554, (.int 917554 336)), (917555, (.int 917555 337)), (917556, (.int 917556 338)), (917557, (.int 917557 339)), (917558, (.int 917558 340)), (917559, (.int 917559 341)), (917560, (.int 917560 342)), (917561, (.int 917561 343)), (917562, (.int 917562 344)), (917563, (.int 917563 345)), (917564, (.int 917564 346)), (917565, (.int 917565 347)), (917566, (.int 917566 348)), (917567, (.int 917567 349)), (917568, (.int 917568 350)), (917569, (.int 917569 351)), (917570, (.int 917570 352)), (917571, (.int 917571 353)), (917572, (.int 917572 354)), (917573, (.int 917573 355)), (917574, (.int 917574 356)), (917575, (.int 917575 357)), (917576, (.int 917576 358)), (917577, (.int 917577 359)), (917578, (.int 917578 360)), (917579, (.int 917579 361)), (917580, (.int 917580 362)), (917581, (.int 917581 363)), (917582, (.int 917582 364)), (917583, (.int 917583 365)), (917584, (.int 917584 366)), (917585, (.int 917585 367)), (917586, (.int 917586 368)), (917587, (.int 917587 369)), (917588, (.int 917588 370)), (917589, (.int 917589 371)), (917590, (.int 917590 372)), (917591, (.int 917591 373)), (917592, (.int 917592 374)), (917593, (.int 917593 375)), (917594, (.int 917594 376)), (917595, (.int 917595 377)), (917596, (.int 917596 378)), (917597, (.int 917597 379)), (917598, (.int 917598 380)), (917599, (.int 917599 381)), (917600, (.int 917600 382)), (917601, (.int 917601 383)), (917602, (.int 917602 384)), (917603, (.int 917603 385)), (917604, (.int 917604 386)), (917605, (.int 917605 387)), (917606, (.int 917606 388)), (917607, (.int 917607 389)), (917608, (.int 917608 390)), (917609, (.int 917609 391)), (917610, (.int 917610 392)), (917611, (.int 917611 393)), (917612, (.int 917612 394)), (917613, (.int 917613 395)), (917614, (.int 917614 396)), (917615, (.int 917615 397)), (917616, (.int 917616 398)), (917617, (.int 917617 399)), (917618, (.int 917618 400)), (917619, (.int 917619 401)), (917620, (.int 917620 402)), (917621, (.int 917621 403)), (917622, (.int 917622 404)), (917623, (.int 917623 405)), (917624, (.int 917624 406)), (917625, (.int 917625 407)), (917626, (.int 917626 408)), (917627, (.int 917627 409)), (917628, (.int 917628 410)), (917629, (.int 917629 411)), (917630, (.int 917630 412)), (917631, (.int 917631 413))]⟩ 100 ⟨511, ⟨[1, 32, 33, 34, 35, 36, 37, 38, 39, 40, 41, 42, 43, 44, 45, 46, 47, 48, 49, 50, 51, 52, 53, 54, 55, 56, 57, 58, 59, 60, 61, 62, 63, 64, 65, 66, 67, 68, 69, 70, 71, 72, 73, 74, 75, 76, 77, 78, 79, 80, 81, 82, 83, 84, 85, 86, 87, 88, 89, 90, 91, 92, 93, 94, 95, 96, 97, 98, 99, 100, 101, 102, 103, 104, 105, 106, 107, 108, 109, 110, 111, 112, 113, 114, 115, 116, 117, 118, 119, 120, 121, 122, 123, 124, 125, 126, 127]⟩, ⟨[]⟩, 0, !P.followText "set-order", 3, true⟩), ⟨[]⟩⟩
noncomputable def o65 (P : Params) : Obj := ⟨(.type "list_iterator"), none, (.fields ⟨[.none, (.int 97 0)]⟩), ⟨[]⟩⟩
noncomputable def o66 (P : Params) : Obj := ⟨(.type "tuple"), none, (.seq ⟨[]⟩ 0), ⟨[]⟩⟩
noncomputable def o67 (P : Params) : Obj := ⟨(.type "StopIteration"), none, (.fields ⟨[(.ref 66), .none, .none, .none, (.bool false), .none]⟩), ⟨[]⟩⟩
noncomputable def o68 (P : Params) : Obj := ⟨(.type "tuple"), none, (.seq ⟨[]⟩ 0), ⟨[]⟩⟩
noncomputable def o69 (P : Params) : Obj := ⟨.none, none, (.fields ⟨[]⟩), ⟨[]⟩⟩
noncomputable def o70 (P : Params) : Obj := ⟨(.type "tuple"), none, (.seq ⟨[(.str (Str.ofString "code") 515)]⟩ 0), ⟨[]⟩⟩
noncomputable def o71 (P : Params) : Obj := ⟨(.type "tuple"), none, (.seq ⟨[]⟩ 0), ⟨[]⟩⟩
noncomputable def o72 (P : Params) : Obj := ⟨.none, none, (.func (fnObj 8 0 .none .none 0)), ⟨[]⟩⟩
noncomputable def o73 (P : Params) : Obj := ⟨(.type "code"), none, (.fields ⟨[(.str (Str.ofString "in_table_c9") 512), (.str (Str.ofString "in_table_c9") 513), (.str (Str.ofString "/claim/cut.py") 514), (.int 12 0), (.int 1 0), (.int 0 0), (.int 0 0), (.int 3 0), (.ref 68), (.bool true), (.int 181 0), (.ref 69), .none, (.ref 70), (.ref 71), (.ref 72), (.int 516 0), (.int 12 0), (.str (Str.ofString "/claim/cut.py") 517)]⟩), ⟨[]⟩⟩
noncomputable def o74 (P : Params) : Obj := ⟨(.type "function"), none, (.func (fnObj 8 3 (.str (Str.ofString "cpy313.stringprep") 187) (.ref 73) 0)), ⟨[]⟩⟩
noncomputable def o75 (P : Params) : Obj := ⟨(.type "tuple"), none, (.seq ⟨[]⟩ 0), ⟨[]⟩⟩
noncomputable def o76 (P : Params) : Obj := ⟨.none, none, (.fields ⟨[]⟩), ⟨[]⟩⟩
noncomputable def o77 (P : Params) : Obj := ⟨(.type "tuple"), none, (.seq ⟨[(.str (Str.ofString "r") 524), (.str (Str.ofString "g") 525), (.str (Str.ofString "b") 526), (.str (Str.ofString "maxc") 527), (.str (Str.ofString "minc") 528), (.str (Str.ofString "rangec") 529), (.str (Str.ofString "v") 530), (.str (Str.ofString "s") 531), (.str (Str.ofString "rc") 532), (.str (Str.ofString "gc") 533), (.str (Str.ofString "bc") 534), (.str (Str.ofString "h") 535)]⟩ 0), ⟨[]⟩⟩
noncomputable def o78 (P : Params) : Obj := ⟨(.type "tuple"), none, (.seq ⟨[]⟩ 0), ⟨[]⟩⟩
noncomputable def o79 (P : Params) : Obj := ⟨.none, none, (.func (fnObj 10 0 .none .none 0)), ⟨[]⟩⟩
noncomputable def o80 (P : Params) : Obj := ⟨(.type "code"), none, (.fields ⟨[(.str (Str.ofString "rgb_to_hsv") 521), (.str (Str.ofString "rgb_to_hsv") 522), (.str (Str.ofString "/claim/cut.py") 523), (.int 15 0), (.int 3 0), (.int 0 0), (.int 0 0), (.int 3 0), (.ref 75), (.bool true), (.int 181 0), (.ref 76), .none, (.ref 77), (.ref 78), (.ref 79), (.int 536 0), (.int 15 0), (.str (Str.ofString "/claim/cut.py") 537)]⟩), ⟨[]⟩⟩
noncomputable def o81 (P : Params) : Obj := ⟨(.type "function"), none, (.func (fnObj 10 3 (.str (Str.ofString "cpy313.colorsys") 519) (.ref 80) 0)), ⟨[]⟩⟩
noncomputable def o82 (P : Params) : Obj := ⟨(.type "tuple"), none, (.seq ⟨[]⟩ 0), ⟨[]⟩⟩
noncomputable def o83 (P : Params) : Obj := ⟨.none, none, (.fields ⟨[]⟩), ⟨[]⟩⟩
noncomputable def o84 (P : Params) : Obj := ⟨(.type "tuple"), none, (.seq ⟨[(.str (Str.ofString "a") 544), (.str (Str.ofString "b") 545)]⟩ 0), ⟨[]⟩⟩
noncomputable def o85 (P : Params) : Obj := ⟨(.type "tuple"), none, (.seq ⟨[]⟩ 0), ⟨[]⟩⟩
noncomputable def o86 (P : Params) : Obj := ⟨.none, none, (.func (fnObj 12 0 .none .none 0)), ⟨[]⟩⟩
noncomputable def o87 (P : Params) : Obj := ⟨(.type "code"), none, (.fields ⟨[(.str (Str.ofString "lt") 541), (.str (Str.ofString "lt") 542), (.str (Str.ofString "/claim/cut.py") 543), (.int 35 0), (.int 2 0), (.int 0 0), (.int 0 0), (.int 3 0), (.ref 82), (.bool true), (.int 181 0), (.ref 83), .none, (.ref 84), (.ref 85), (.ref 86), (.int 546 0), (.int 35 0), (.str (Str.ofString "/claim/cut.py") 547)]⟩), ⟨[]⟩⟩
noncomputable def o88 (P : Params) : Obj := ⟨(.type "function"), none, (.func (fnObj 12 3 (.str (Str.ofString "cpy313.operator") 539) (.ref 87) 0)), ⟨[]⟩⟩
noncomputable def o89 (P : Params) : Obj := ⟨(.type "tuple"), none, (.seq ⟨[]⟩ 0), ⟨[]⟩⟩
noncomputable def o90 (P : Params) : Obj := ⟨.none, none, (.fields ⟨[]⟩), ⟨[]⟩⟩
noncomputable def o91 (P : Params) : Obj := ⟨(.type "tuple"), none, (.seq ⟨[(.str (Str.ofString "a") 552), (.str (Str.ofString "b") 553)]⟩ 0), ⟨[]⟩⟩
noncomputable def o92 (P : Params) : Obj := ⟨(.type "tuple"), none, (.seq ⟨[]⟩ 0), ⟨[]⟩⟩
noncomputable def o93 (P : Params) : Obj := ⟨.none, none, (.func (fnObj 13 0 .none .none 0)), ⟨[]⟩⟩
noncomputable def o94 (P : Params) : Obj := ⟨(.type "code"), none, (.fields ⟨[(.str (Str.ofString "floordiv") 549), (.str (Str.ofString "floordiv") 550), (.str (Str.ofString "/claim/cut.py") 551), (.int 37 0), (.int 2 0), (.int 0 0), (.int 0 0), (.int 3 0), (.ref 89), (.bool true), (.int 181 0), (.ref 90), .none, (.ref 91), (.ref 92), (.ref 93), (.int 554 0), (.int 37 0), (.str (Str.ofString "/claim/cut.py") 555)]⟩), ⟨[]⟩⟩
noncomputable def o95 (P : Params) : Obj := ⟨(.type "function"), none, (.func (fnObj 13 3 (.str (Str.ofString "cpy313.operator") 539) (.ref 94) 0)), ⟨[]⟩⟩
noncomputable def o96 (P : Params) : Obj := ⟨(.type "tuple"), none, (.seq ⟨[]⟩ 0), ⟨[]⟩⟩
noncomputable def o97 (P : Params) : Obj := ⟨.none, none, (.fields ⟨[]⟩), ⟨[]⟩⟩
noncomputable def o98 (P : Params) : Obj := ⟨(.type "tuple"), none, (.seq ⟨[(.str (Str.ofString "a") 560), (.str (Str.ofString "b") 561)]⟩ 0), ⟨[]⟩⟩
noncomputable def o99 (P : Params) : Obj := ⟨(.type "tuple"), none, (.seq ⟨[]⟩ 0), ⟨[]⟩⟩
noncomputable def o100 (P : Params) : Obj := ⟨.none, none, (.func (fnObj 14 0 .none .none 0)), ⟨[]⟩⟩
noncomputable def o101 (P : Params) : Obj := ⟨(.type "code"), none, (.fields ⟨[(.str (Str.ofString "mul") 557), (.str (Str.ofString "mul") 558), (.str (Str.ofString "/claim/cut.py") 559), (.int 39 0), (.int 2 0), (.int 0 0), (.int 0 0), (.int 3 0), (.ref 96), (.bool true), (.int 181 0), (.ref 97), .none, (.ref 98), (.ref 99), (.ref 100), (.int 562 0), (.int 39 0), (.str (Str.ofString "/claim/cut.py") 563)]⟩), ⟨[]⟩⟩
noncomputable def o102 (P : Params) : Obj := ⟨(.type "function"), none, (.func (fnObj 14 3 (.str (Str.ofString "cpy313.operator") 539) (.ref 101) 0)), ⟨[]⟩⟩
noncomputable def o103 (P : Params) : Obj := ⟨(.type "tuple"), none, (.seq ⟨[]⟩ 0), ⟨[]⟩⟩
noncomputable def o104 (P : Params) : Obj := ⟨.none, none, (.fields ⟨[]⟩), ⟨[]⟩⟩
noncomputable def o105 (P : Params) : Obj := ⟨(.type "tuple"), none, (.seq ⟨[(.str (Str.ofString "a") 568), (.str (Str.ofString "b") 569)]⟩ 0), ⟨[]⟩⟩
noncomputable def o106 (P : Params) : Obj := ⟨(.type "tuple"), none, (.seq ⟨[]⟩ 0), ⟨[]⟩⟩
noncomputable def o107 (P : Params) : Obj := ⟨.none, none, (.func (fnObj 15 0 .none .none 0)), ⟨[]⟩⟩
noncomputable def o108 (P : Params) : Obj := ⟨(.type "code"), none, (.fields ⟨[(.str (Str.ofString "sub") 565), (.str (Str.ofString "sub") 566), (.str (Str.ofString "/claim/cut.py") 567), (.int 41 0), (.int 2 0), (.int 0 0), (.int 0 0), (.int 3 0), (.ref 103), (.bool true), (.int 181 0), (.ref 104), .none, (.ref 105), (.ref 106), (.ref 107), (.int 570 0), (.int 41 0), (.str (Str.ofString "/claim/cut.py") 571)]⟩), ⟨[]⟩⟩
noncomputable def o109 (P : Params) : Obj := ⟨(.type "function"), none, (.func (fnObj 15 3 (.str (Str.ofString "cpy313.operator") 539) (.ref 108) 0)), ⟨[]⟩⟩
noncomputable def o110 (P : Params) : Obj := ⟨(.type "tuple"), none, (.seq ⟨[]⟩ 0), ⟨[]⟩⟩
noncomputable def o111 (P : Params) : Obj := ⟨.none, none, (.fields ⟨[]⟩), ⟨[]⟩⟩
noncomputable def o112 (P : Params) : Obj := ⟨(.type "tuple"), none, (.seq ⟨[(.str (Str.ofString "a") 576), (.str (Str.ofString "b") 577), (.str (Str.ofString "count") 578), (.str (Str.ofString "i") 579)]⟩ 0), ⟨[]⟩⟩
noncomputable def o113 (P : Params) : Obj := ⟨(.type "tuple"), none, (.seq ⟨[]⟩ 0), ⟨[]⟩⟩
noncomputable def o114 (P : Params) : Obj := ⟨.none, none, (.func (fnObj 16 0 .none .none 0)), ⟨[]⟩⟩
noncomputable def o115 (P : Params) : Obj := ⟨(.type "code"), none, (.fields ⟨[(.str (Str.ofString "countOf") 573), (.str (Str.ofString "countOf") 574), (.str (Str.ofString "/claim/cut.py") 575), (.int 43 0), (.int 2 0), (.int 0 0), (.int 0 0), (.int 3 0), (.ref 110), (.bool true), (.int 181 0), (.ref 111), .none, (.ref 112), (.ref 113), (.ref 114), (.int 580 0), (.int 43 0), (.str (Str.ofString "/claim/cut.py") 581)]⟩), ⟨[]⟩⟩
noncomputable def o116 (P : Params) : Obj := ⟨(.type "function"), none, (.func (fnObj 16 3 (.str (Str.ofString "cpy313.operator") 539) (.ref 115) 0)), ⟨[]⟩⟩
noncomputable def o117 (P : Params) : Obj := ⟨(.type "tuple"), none, (.seq ⟨[]⟩ 0), ⟨[]⟩⟩
noncomputable def o118 (P : Params) : Obj := ⟨.none, none, (.fields ⟨[]⟩), ⟨[]⟩⟩
noncomputable def o119 (P : Params) : Obj := ⟨(.type "tuple"), none, (.seq ⟨[(.str (Str.ofString "a") 586), (.str (Str.ofString "b") 587), (.str (Str.ofString "c") 588)]⟩ 0), ⟨[]⟩⟩
noncomputable def o120 (P : Params) : Obj := ⟨(.type "tuple"), none, (.seq ⟨[]⟩ 0), ⟨[]⟩⟩
noncomputable def o121 (P : Params) : Obj := ⟨.none, none, (.func (fnObj 17 0 .none .none 0)), ⟨[]⟩⟩
noncomputable def o122 (P : Params) : Obj := ⟨(.type "code"), none, (.fields ⟨[(.str (Str.ofString "setitem") 583), (.str (Str.ofString "setitem") 584), (.str (Str.ofString "/claim/cut.py") 585), (.int 49 0), (.int 3 0), (.int 0 0), (.int 0 0), (.int 3 0), (.ref 117), (.bool true), (.int 181 0), (.ref 118), .none, (.ref 119), (.ref 120), (.ref 121), (.int 589 0), (.int 49 0), (.str (Str.ofString "/claim/cut.py") 590)]⟩), ⟨[]⟩⟩
noncomputable def o123 (P : Params) : Obj := ⟨(.type "function"), none, (.func (fnObj 17 3 (.str (Str.ofString "cpy313.operator") 539) (.ref 122) 0)), ⟨[]⟩⟩
noncomputable def o124 (P : Params) : Obj := ⟨(.type "tuple"), none, (.seq ⟨[]⟩ 0), ⟨[]⟩⟩
noncomputable def o125 (P : Params) : Obj := ⟨.none, none, (.fields ⟨[]⟩), ⟨[]⟩⟩
noncomputable def o126 (P : Params) : Obj := ⟨.none, none, (.func (fnObj 19 0 .none .none 0)), ⟨[]⟩⟩
noncomputable def o127 (P : Params) : Obj := ⟨(.type "code"), none, (.fields ⟨[(.str (Str.ofString "_law_votes") 594), (.str (Str.ofString "_law_votes") 595), (.str (Str.ofString "/claim/cut.py") 596), (.int 52 0), (.int 1 0), (.int 0 0), (.int 0 0), (.int 3 0), (.ref 124), (.bool true), (.int 181 0), (.ref 125), .none, .none, .none, (.ref 126), (.int 597 0), (.int 52 0), (.str (Str.ofString "/claim/cut.py") 598)]⟩), ⟨[]⟩⟩
noncomputable def o128 (P : Params) : Obj := ⟨(.type "function"), none, (.func (fnObj 19 3 (.str (Str.ofString "law_to0001_01") 592) (.ref 127) 0)), ⟨[]⟩⟩
noncomputable def o129 (P : Params) : Obj := ⟨(.type "tuple"), none, (.seq ⟨[]⟩ 0), ⟨[]⟩⟩
noncomputable def o130 (P : Params) : Obj := ⟨.none, none, (.fields ⟨[]⟩), ⟨[]⟩⟩
noncomputable def o131 (P : Params) : Obj := ⟨(.type "tuple"), none, (.seq ⟨[(.str (Str.ofString "script") 603), (.str (Str.ofString "v") 604), (.str (Str.ofString "blue") 605), (.str (Str.ofString "green") 606)]⟩ 0), ⟨[]⟩⟩
noncomputable def o132 (P : Params) : Obj := ⟨(.type "tuple"), none, (.seq ⟨[]⟩ 0), ⟨[]⟩⟩
noncomputable def o133 (P : Params) : Obj := ⟨.none, none, (.func (fnObj 20 0 .none .none 0)), ⟨[]⟩⟩
noncomputable def o134 (P : Params) : Obj := ⟨(.type "code"), none, (.fields ⟨[(.str (Str.ofString "_law_lead") 600), (.str (Str.ofString "_law_lead") 601), (.str (Str.ofString "/claim/cut.py") 602), (.int 56 0), (.int 1 0), (.int 0 0), (.int 0 0), (.int 3 0), (.ref 129), (.bool true), (.int 181 0), (.ref 130), .none, (.ref 131), (.ref 132), (.ref 133), (.int 607 0), (.int 56 0), (.str (Str.ofString "/claim/cut.py") 608)]⟩), ⟨[]⟩⟩
noncomputable def o135 (P : Params) : Obj := ⟨(.type "function"), none, (.func (fnObj 20 3 (.str (Str.ofString "law_to0001_01") 592) (.ref 134) 0)), ⟨[]⟩⟩
noncomputable def o136 (P : Params) : Obj := ⟨(.type "tuple"), none, (.seq ⟨[]⟩ 0), ⟨[]⟩⟩
noncomputable def o137 (P : Params) : Obj := ⟨.none, none, (.fields ⟨[]⟩), ⟨[]⟩⟩
noncomputable def o138 (P : Params) : Obj := ⟨(.type "tuple"), none, (.seq ⟨[(.str (Str.ofString "v") 613), (.str (Str.ofString "ahead") 614), (.str (Str.ofString "which") 615)]⟩ 0), ⟨[]⟩⟩
noncomputable def o139 (P : Params) : Obj := ⟨(.type "tuple"), none, (.seq ⟨[]⟩ 0), ⟨[]⟩⟩
noncomputable def o140 (P : Params) : Obj := ⟨.none, none, (.func (fnObj 21 0 .none .none 0)), ⟨[]⟩⟩
noncomputable def o141 (P : Params) : Obj := ⟨(.type "code"), none, (.fields ⟨[(.str (Str.ofString "_law_spelled") 610), (.str (Str.ofString "_law_spelled") 611), (.str (Str.ofString "/claim/cut.py") 612), (.int 61 0), (.int 1 0), (.int 0 0), (.int 0 0), (.int 3 0), (.ref 136), (.bool true), (.int 181 0), (.ref 137), .none, (.ref 138), (.ref 139), (.ref 140), (.int 616 0), (.int 61 0), (.str (Str.ofString "/claim/cut.py") 617)]⟩), ⟨[]⟩⟩
noncomputable def o142 (P : Params) : Obj := ⟨(.type "function"), none, (.func (fnObj 21 3 (.str (Str.ofString "law_to0001_01") 592) (.ref 141) 0)), ⟨[]⟩⟩
noncomputable def o143 (P : Params) : Obj := ⟨(.type "tuple"), none, (.seq ⟨[]⟩ 0), ⟨[]⟩⟩
noncomputable def o144 (P : Params) : Obj := ⟨.none, none, (.fields ⟨[]⟩), ⟨[]⟩⟩
noncomputable def o145 (P : Params) : Obj := ⟨(.type "tuple"), none, (.seq ⟨[(.str (Str.ofString "text") 622), (.str (Str.ofString "marks") 623), (.str (Str.ofString "sign") 624)]⟩ 0), ⟨[]⟩⟩
noncomputable def o146 (P : Params) : Obj := ⟨(.type "tuple"), none, (.seq ⟨[]⟩ 0), ⟨[]⟩⟩
noncomputable def o147 (P : Params) : Obj := ⟨.none, none, (.func (fnObj 22 0 .none .none 0)), ⟨[]⟩⟩
noncomputable def o148 (P : Params) : Obj := ⟨(.type "code"), none, (.fields ⟨[(.str (Str.ofString "_law_read") 619), (.str (Str.ofString "_law_read") 620), (.str (Str.ofString "/claim/cut.py") 621), (.int 69 0), (.int 1 0), (.int 0 0), (.int 0 0), (.int 3 0), (.ref 143), (.bool true), (.int 181 0), (.ref 144), .none, (.ref 145), (.ref 146), (.ref 147), (.int 625 0), (.int 69 0), (.str (Str.ofString "/claim/cut.py") 626)]⟩), ⟨[]⟩⟩
noncomputable def o149 (P : Params) : Obj := ⟨(.type "function"), none, (.func (fnObj 22 3 (.str (Str.ofString "law_to0001_01") 592) (.ref 148) 0)), ⟨[]⟩⟩
noncomputable def o150 (P : Params) : Obj := ⟨(.type "tuple"), none, (.seq ⟨[]⟩ 0), ⟨[]⟩⟩
noncomputable def o151 (P : Params) : Obj := ⟨.none, none, (.fields ⟨[]⟩), ⟨[]⟩⟩
noncomputable def o152 (P : Params) : Obj := ⟨(.type "tuple"), none, (.seq ⟨[(.str (Str.ofString "r") 631), (.str (Str.ofString "g") 632), (.str (Str.ofString "b") 633), (.str (Str.ofString "spread") 634), (.str (Str.ofString "part") 635)]⟩ 0), ⟨[]⟩⟩
noncomputable def o153 (P : Params) : Obj := ⟨(.type "tuple"), none, (.seq ⟨[]⟩ 0), ⟨[]⟩⟩
noncomputable def o154 (P : Params) : Obj := ⟨.none, none, (.func (fnObj 23 0 .none .none 0)), ⟨[]⟩⟩
noncomputable def o155 (P : Params) : Obj := ⟨(.type "code"), none, (.fields ⟨[(.str (Str.ofString "_law_within") 628), (.str (Str.ofString "_law_within") 629), (.str (Str.ofString "/claim/cut.py") 630), (.int 81 0), (.int 3 0), (.int 0 0), (.int 0 0), (.int 3 0), (.ref 150), (.bool true), (.int 181 0), (.ref 151), .none, (.ref 152), (.ref 153), (.ref 154), (.int 636 0), (.int 81 0), (.str (Str.ofString "/claim/cut.py") 637)]⟩), ⟨[]⟩⟩
noncomputable def o156 (P : Params) : Obj := ⟨(.type "function"), none, (.func (fnObj 23 3 (.str (Str.ofString "law_to0001_01") 592) (.ref 155) 0)), ⟨[]⟩⟩
noncomputable def o157 (P : Params) : Obj := ⟨(.type "tuple"), none, (.seq ⟨[]⟩ 0), ⟨[]⟩⟩
noncomputable def o158 (P : Params) : Obj := ⟨.none, none, (.fields ⟨[]⟩), ⟨[]⟩⟩
noncomputable def o159 (P : Params) : Obj := ⟨(.type "tuple"), none, (.seq ⟨[(.str (Str.ofString "start") 642), (.str (Str.ofString "goal") 643), (.str (Str.ofString "ways") 644), (.str (Str.ofString "r") 645), (.str (Str.ofString "g") 646), (.str (Str.ofString "b") 647), (.str (Str.ofString "key") 648)]⟩ 0), ⟨[]⟩⟩
noncomputable def o160 (P : Params) : Obj := ⟨(.type "tuple"), none, (.seq ⟨[]⟩ 0), ⟨[]⟩⟩
noncomputable def o161 (P : Params) : Obj := ⟨.none, none, (.func (fnObj 24 0 .none .none 0)), ⟨[]⟩⟩
noncomputable def o162 (P : Params) : Obj := ⟨(.type "code"), none, (.fields ⟨[(.str (Str.ofString "_law_ways") 639), (.str (Str.ofString "_law_ways") 640), (.str (Str.ofString "/claim/cut.py") 641), (.int 85 0), (.int 2 0), (.int 0 0), (.int 0 0), (.int 3 0), (.ref 157), (.bool true), (.int 181 0), (.ref 158), .none, (.ref 159), (.ref 160), (.ref 161), (.int 649 0), (.int 85 0), (.str (Str.ofString "/claim/cut.py") 650)]⟩), ⟨[]⟩⟩
noncomputable def o163 (P : Params) : Obj := ⟨(.type "function"), none, (.func (fnObj 24 3 (.str (Str.ofString "law_to0001_01") 592) (.ref 162) 0)), ⟨[]⟩⟩
noncomputable def o164 (P : Params) : Obj := ⟨(.type "tuple"), none, (.seq ⟨[]⟩ 0), ⟨[]⟩⟩
noncomputable def o165 (P : Params) : Obj := ⟨.none, none, (.fields ⟨[]⟩), ⟨[]⟩⟩
noncomputable def o166 (P : Params) : Obj := ⟨(.type "tuple"), none, (.seq ⟨[(.str (Str.ofString "start") 655), (.str (Str.ofString "finish") 656), (.str (Str.ofString "total") 657), (.str (Str.ofString "products") 658), (.str (Str.ofString "k") 659), (.str (Str.ofString "told") 660), (.str (Str.ofString "i") 661), (.str (Str.ofString "j") 662), (.str (Str.ofString "steps") 663), (.str (Str.ofString "fixed") 664), (.str (Str.ofString "orders") 665)]⟩ 0), ⟨[]⟩⟩
noncomputable def o167 (P : Params) : Obj := ⟨(.type "tuple"), none, (.seq ⟨[]⟩ 0), ⟨[]⟩⟩
noncomputable def o168 (P : Params) : Obj := ⟨.none, none, (.func (fnObj 25 0 .none .none 0)), ⟨[]⟩⟩
noncomputable def o169 (P : Params) : Obj := ⟨(.type "code"), none, (.fields ⟨[(.str (Str.ofString "_law_signed") 652), (.str (Str.ofString "_law_signed") 653), (.str (Str.ofString "/claim/cut.py") 654), (.int 98 0), (.int 3 0), (.int 0 0), (.int 0 0), (.int 3 0), (.ref 164), (.bool true), (.int 181 0), (.ref 165), .none, (.ref 166), (.ref 167), (.ref 168), (.int 666 0), (.int 98 0), (.str (Str.ofString "/claim/cut.py") 667)]⟩), ⟨[]⟩⟩
noncomputable def o170 (P : Params) : Obj := ⟨(.type "function"), none, (.func (fnObj 25 3 (.str (Str.ofString "law_to0001_01") 592) (.ref 169) 0)), ⟨[]⟩⟩
noncomputable def o171 (P : Params) : Obj := ⟨(.type "tuple"), none, (.seq ⟨[]⟩ 0), ⟨[]⟩⟩
noncomputable def o172 (P : Params) : Obj := ⟨.none, none, (.fields ⟨[]⟩), ⟨[]⟩⟩
noncomputable def o173 (P : Params) : Obj := ⟨(.type "tuple"), none, (.seq ⟨[(.str (Str.ofString "r") 672), (.str (Str.ofString "g") 673), (.str (Str.ofString "b") 674)]⟩ 0), ⟨[]⟩⟩
noncomputable def o174 (P : Params) : Obj := ⟨(.type "tuple"), none, (.seq ⟨[]⟩ 0), ⟨[]⟩⟩
noncomputable def o175 (P : Params) : Obj := ⟨.none, none, (.func (fnObj 26 0 .none .none 0)), ⟨[]⟩⟩
noncomputable def o176 (P : Params) : Obj := ⟨(.type "code"), none, (.fields ⟨[(.str (Str.ofString "_law_rank") 669), (.str (Str.ofString "_law_rank") 670), (.str (Str.ofString "/claim/cut.py") 671), (.int 114 0), (.int 3 0), (.int 0 0), (.int 0 0), (.int 3 0), (.ref 171), (.bool true), (.int 181 0), (.ref 172), .none, (.ref 173), (.ref 174), (.ref 175), (.int 675 0), (.int 114 0), (.str (Str.ofString "/claim/cut.py") 676)]⟩), ⟨[]⟩⟩
noncomputable def o177 (P : Params) : Obj := ⟨(.type "function"), none, (.func (fnObj 26 3 (.str (Str.ofString "law_to0001_01") 592) (.ref 176) 0)), ⟨[]⟩⟩
noncomputable def o178 (P : Params) : Obj := ⟨(.type "tuple"), none, (.seq ⟨[]⟩ 0), ⟨[]⟩⟩
noncomputable def o179 (P : Params) : Obj := ⟨.none, none, (.fields ⟨[]⟩), ⟨[]⟩⟩
noncomputable def o180 (P : Params) : Obj := ⟨.none, none, (.func (fnObj 27 0 .none .none 0)), ⟨[]⟩⟩
noncomputable def o181 (P : Params) : Obj := ⟨(.type "code"), none, (.fields ⟨[(.str (Str.ofString "law") 678), (.str (Str.ofString "law") 679), (.str (Str.ofString "/claim/cut.py") 680), (.int 116 0), (.int 1 0), (.int 0 0), (.int 0 0), (.int 3 0), (.ref 178), (.bool true), (.int 181 0), (.ref 179), .none, .none, .none, (.ref 180), (.int 681 0), (.int 116 0), (.str (Str.ofString "/claim/cut.py") 682)]⟩), ⟨[]⟩⟩
noncomputable def o182 (P : Params) : Obj := ⟨(.type "function"), none, (.func (fnObj 27 3 (.str (Str.ofString "law_to0001_01") 592) (.ref 181) 0)), ⟨[]⟩⟩
noncomputable def treeEnd (P : Params) : BT := (.node (o0 P) (.node (o1 P) (.node (o3 P) (.node (o7 P) (.node (o15 P) (.node (o31 P) (.node (o63 P) (.node (o127 P) .nil .nil) .nil) (.node (o95 P) (.node (o159 P) .nil .nil) .nil)) (.node (o47 P) (.node (o79 P) (.node (o143 P) .nil .nil) .nil) (.node (o111 P) (.node (o175 P) .nil .nil) .nil))) (.node (o23 P) (.node (o39 P) (.node (o71 P) (.node (o135 P) .nil .nil) .nil) (.node (o103 P) (.node (o167 P) .nil .nil) .nil)) (.node (o55 P) (.node (o87 P) (.node (o151 P) .nil .nil) .nil) (.node (o119 P) .nil .nil)))) (.node (o11 P) (.node (o19 P) (.node (o35 P) (.node (o67 P) (.node (o131 P) .nil .nil) .nil) (.node (o99 P) (.node (o163 P) .nil .nil) .nil)) (.node (o51 P) (.node (o83 P) (.node (o147 P) .nil .nil) .nil) (.node (o115 P) (.node (o179 P) .nil .nil) .nil))) (.node (o27 P) (.node (o43 P) (.node (o75 P) (.node (o139 P) .nil .nil) .nil) (.node (o107 P) (.node (o171 P) .nil .nil) .nil)) (.node (o59 P) (.node (o91 P) (.node (o155 P) .nil .nil) .nil) (.node (o123 P) .nil .nil))))) (.node (o5 P) (.node (o9 P) (.node (o17 P) (.node (o33 P) (.node (o65 P) (.node (o129 P) .nil .nil) .nil) (.node (o97 P) (.node (o161 P) .nil .nil) .nil)) (.node (o49 P) (.node (o81 P) (.node (o145 P) .nil .nil) .nil) (.node (o113 P) (.node (o177 P) .nil .nil) .nil))) (.node (o25 P) (.node (o41 P) (.node (o73 P) (.node (o137 P) .nil .nil) .nil) (.node (o105 P) (.node (o169 P) .nil .nil) .nil)) (.node (o57 P) (.node (o89 P) (.node (o153 P) .nil .nil) .nil) (.node (o121 P) .nil .nil)))) (.node (o13 P) (.node (o21 P) (.node (o37 P) (.node (o69 P) (.node (o133 P) .nil .nil) .nil) (.node (o101 P) (.node (o165 P) .nil .nil) .nil)) (.node (o53 P) (.node (o85 P) (.node (o149 P) .nil .nil) .nil) (.node (o117 P) (.node (o181 P) .nil .nil) .nil))) (.node (o29 P) (.node (o45 P) (.node (o77 P) (.node (o141 P) .nil .nil) .nil) (.node (o109 P) (.node (o173 P) .nil .nil) .nil)) (.node (o61 P) (.node (o93 P) (.node (o157 P) .nil .nil) .nil) (.node (o125 P) .nil .nil)))))) (.node (o2 P) (.node (o4 P) (.node (o8 P) (.node (o16 P) (.node (o32 P) (.node (o64 P) (.node (o128 P) .nil .nil) .nil) (.node (o96 P) (.node (o160 P) .nil .nil) .nil)) (.node (o48 P) (.node (o80 P) (.node (o144 P) .nil .nil) .nil) (.node (o112 P) (.node (o176 P) .nil .nil) .nil))) (.node (o24 P) (.node (o40 P) (.node (o72 P) (.node (o136 P) .nil .nil) .nil) (.node (o104 P) (.node (o168 P) .nil .nil) .nil)) (.node (o56 P) (.node (o88 P) (.node (o152 P) .nil .nil) .nil) (.node (o120 P) .nil .nil)))) (.node (o12 P) (.node (o20 P) (.node (o36 P) (.node (o68 P) (.node (o132 P) .nil .nil) .nil) (.node (o100 P) (.node (o164 P) .nil .nil) .nil)) (.node (o52 P) (.node (o84 P) (.node (o148 P) .nil .nil) .nil) (.node (o116 P) (.node (o180 P) .nil .nil) .nil))) (.node (o28 P) (.node (o44 P) (.node (o76 P) (.node (o140 P) .nil .nil) .nil) (.node (o108 P) (.node (o172 P) .nil .nil) .nil)) (.node (o60 P) (.node (o92 P) (.node (o156 P) .nil .nil) .nil) (.node (o124 P) .nil .nil))))) (.node (o6 P) (.node (o10 P) (.node (o18 P) (.node (o34 P) (.node (o66 P) (.node (o130 P) .nil .nil) .nil) (.node (o98 P) (.node (o162 P) .nil .nil) .nil)) (.node (o50 P) (.node (o82 P) (.node (o146 P) .nil .nil) .nil) (.node (o114 P) (.node (o178 P) .nil .nil) .nil))) (.node (o26 P) (.node (o42 P) (.node (o74 P) (.node (o138 P) .nil .nil) .nil) (.node (o106 P) (.node (o170 P) .nil .nil) .nil)) (.node (o58 P) (.node (o90 P) (.node (o154 P) .nil .nil) .nil) (.node (o122 P) .nil .nil)))) (.node (o14 P) (.node (o22 P) (.node (o38 P) (.node (o70 P) (.node (o134 P) .nil .nil) .nil) (.node (o102 P) (.node (o166 P) .nil .nil) .nil)) (.node (o54 P) (.node (o86 P) (.node (o150 P) .nil .nil) .nil) (.node (o118 P) (.node (o182 P) .nil .nil) .nil))) (.node (o30 P) (.node (o46 P) (.node (o78 P) (.node (o142 P) .nil .nil) .nil) (.node (o110 P) (.node (o174 P) .nil .nil) .nil)) (.node (o62 P) (.node (o94 P) (.node (o158 P) .nil .nil) .nil) (.node (o126 P) .nil .nil)))))))
-- toks 684, objects 183, steps 5979
noncomputable def tree0 (P : Params) : BT :=
  .node (boot_o_0 P) (.node (boot_o_1 P) (.node (boot_o_3 P) (.node (boot_o_7 P) .nil .nil) .nil) (.node (boot_o_5 P) (.node (boot_o_9 P) .nil .nil) .nil))
    (.node (boot_o_2 P) (.node (boot_o_4 P) (.node (boot_o_8 P) .nil .nil) .nil) (.node (boot_o_6 P) (.node (boot_o_10 P) .nil .nil) .nil))
noncomputable def S0 (w : World) (os : OsState) : SharedT := ⟨tree0 w.params, 11, {}, #[], boot_drawn, boot_toks, os⟩
noncomputable def S1 (w : World) (os : OsState) : SharedT := ⟨treeEnd w.params, 183, {}, #[], {}, 684, os⟩
theorem end_at (b : Bool) (w : World) (os : OsState) : topRunF Fast.tw8437177126325714943 Fast.tw6613529449190102663 denQ PySem.Challenge.pw_to0001_01 (w.withFollow "special-get-raises" b) 11 (some (.ref 6)) 6000
    (S0 (w.withFollow "special-get-raises" b) os) (topStub PySem.Challenge.pw_to0001_01) = some (S1 (w.withFollow "special-get-raises" b) os) := by
  cases b
  · kernel_rfl
  · kernel_rfl
theorem end_abs (b : Bool) (w : World) (os : OsState) : topRun treeTable PySem.Challenge.pw_to0001_01 (w.withFollow "special-get-raises" b) 11 (some (.ref 6)) 6000 (S0 (w.withFollow "special-get-raises" b) os).abs (topStub PySem.Challenge.pw_to0001_01) = some (S1 (w.withFollow "special-get-raises" b) os).abs :=
  topRunQ_spec (end_at b w os)
theorem run_abs (w : World) (os : OsState) : topRun treeTable PySem.Challenge.pw_to0001_01 w 11 (some (.ref 6)) 6000 (S0 w os).abs (topStub PySem.Challenge.pw_to0001_01) = some (S1 w os).abs := by
  have := end_abs (w.params.followText "special-get-raises") w os
  rw [World.withFollow_self] at this
  exact this
end Mine
end
section
open PySem PySem.W PySem.Calls PyProof.Rows
set_option Elab.async false
set_option maxRecDepth 100000
set_option maxHeartbeats 2000000
namespace Mine
/-- the law's statement of the text: its record -/
noncomputable def q : Program := view PySem.Challenge.pw_to0001_01 [0, 2, 4, 6, 8, 9, 10, 11, 12, 13, 14, 15, 16, 17, 18, 19, 20, 21, 22, 23, 24, 25, 26, 27]
def loose : List Str := [Str.ofString "b1_set", Str.ofString "c6_set", Str.ofString "c7_set", Str.ofString "c9_set"]
noncomputable def K (P : Params) : Frag := (nat_lit 2, o2 P) :: (nat_lit 3, o3 P) :: (nat_lit 22, o22 P) :: (nat_lit 26, o26 P) :: (nat_lit 28, o28 P) :: (nat_lit 29, o29 P) :: (nat_lit 31, o31 P) :: (nat_lit 32, o32 P) :: (nat_lit 34, o34 P) :: (nat_lit 38, o38 P) :: (nat_lit 40, o40 P) :: (nat_lit 41, o41 P) :: (nat_lit 43, o43 P) :: (nat_lit 44, o44 P) :: (nat_lit 46, o46 P) :: (nat_lit 50, o50 P) :: (nat_lit 52, o52 P) :: (nat_lit 53, o53 P) :: (nat_lit 55, o55 P) :: (nat_lit 56, o56 P) :: (nat_lit 64, o64 P) :: (nat_lit 68, o68 P) :: (nat_lit 70, o70 P) :: (nat_lit 71, o71 P) :: (nat_lit 73, o73 P) :: (nat_lit 74, o74 P) :: (nat_lit 75, o75 P) :: (nat_lit 77, o77 P) :: (nat_lit 78, o78 P) :: (nat_lit 80, o80 P) :: (nat_lit 81, o81 P) :: (nat_lit 82, o82 P) :: (nat_lit 84, o84 P) :: (nat_lit 85, o85 P) :: (nat_lit 87, o87 P) :: (nat_lit 88, o88 P) :: (nat_lit 89, o89 P) :: (nat_lit 91, o91 P) :: (nat_lit 92, o92 P) :: (nat_lit 94, o94 P) :: (nat_lit 95, o95 P) :: (nat_lit 96, o96 P) :: (nat_lit 98, o98 P) :: (nat_lit 99, o99 P) :: (nat_lit 101, o101 P) :: (nat_lit 102, o102 P) :: (nat_lit 103, o103 P) :: (nat_lit 105, o105 P) :: (nat_lit 106, o106 P) :: (nat_lit 108, o108 P) :: (nat_lit 109, o109 P) :: (nat_lit 110, o110 P) :: (nat_lit 112, o112 P) :: (nat_lit 113, o113 P) :: (nat_lit 115, o115 P) :: (nat_lit 116, o116 P) :: (nat_lit 117, o117 P) :: (nat_lit 119, o119 P) :: (nat_lit 120, o120 P) :: (nat_lit 122, o122 P) :: (nat_lit 123, o123 P) :: (nat_lit 124, o124 P) :: (nat_lit 127, o127 P) :: (nat_lit 128, o128 P) :: (nat_lit 129, o129 P) :: (nat_lit 131, o131 P) :: (nat_lit 132, o132 P) :: (nat_lit 134, o134 P) :: (nat_lit 135, o135 P) :: (nat_lit 136, o136 P) :: (nat_lit 138, o138 P) :: (nat_lit 139, o139 P) :: (nat_lit 141, o141 P) :: (nat_lit 142, o142 P) :: (nat_lit 143, o143 P) :: (nat_lit 145, o145 P) :: (nat_lit 146, o146 P) :: (nat_lit 148, o148 P) :: (nat_lit 149, o149 P) :: (nat_lit 150, o150 P) :: (nat_lit 152, o152 P) :: (nat_lit 153, o153 P) :: (nat_lit 155, o155 P) :: (nat_lit 156, o156 P) :: (nat_lit 157, o157 P) :: (nat_lit 159, o159 P) :: (nat_lit 160, o160 P) :: (nat_lit 162, o162 P) :: (nat_lit 163, o163 P) :: (nat_lit 164, o164 P) :: (nat_lit 166, o166 P) :: (nat_lit 167, o167 P) :: (nat_lit 169, o169 P) :: (nat_lit 170, o170 P) :: (nat_lit 171, o171 P) :: (nat_lit 173, o173 P) :: (nat_lit 174, o174 P) :: (nat_lit 176, o176 P) :: (nat_lit 177, o177 P) :: (nat_lit 178, o178 P) :: (nat_lit 181, o181 P) :: (nat_lit 182, o182 P) :: []
def as : List Addr := nat_lit 2 :: nat_lit 3 :: nat_lit 22 :: nat_lit 26 :: nat_lit 28 :: nat_lit 29 :: nat_lit 31 :: nat_lit 32 :: nat_lit 34 :: nat_lit 38 :: nat_lit 40 :: nat_lit 41 :: nat_lit 43 :: nat_lit 44 :: nat_lit 46 :: nat_lit 50 :: nat_lit 52 :: nat_lit 53 :: nat_lit 55 :: nat_lit 56 :: nat_lit 64 :: nat_lit 68 :: nat_lit 70 :: nat_lit 71 :: nat_lit 73 :: nat_lit 74 :: nat_lit 75 :: nat_lit 77 :: nat_lit 78 :: nat_lit 80 :: nat_lit 81 :: nat_lit 82 :: nat_lit 84 :: nat_lit 85 :: nat_lit 87 :: nat_lit 88 :: nat_lit 89 :: nat_lit 91 :: nat_lit 92 :: nat_lit 94 :: nat_lit 95 :: nat_lit 96 :: nat_lit 98 :: nat_lit 99 :: nat_lit 101 :: nat_lit 102 :: nat_lit 103 :: nat_lit 105 :: nat_lit 106 :: nat_lit 108 :: nat_lit 109 :: nat_lit 110 :: nat_lit 112 :: nat_lit 113 :: nat_lit 115 :: nat_lit 116 :: nat_lit 117 :: nat_lit 119 :: nat_lit 120 :: nat_lit 122 :: nat_lit 123 :: nat_lit 124 :: nat_lit 127 :: nat_lit 128 :: nat_lit 129 :: nat_lit 131 :: nat_lit 132 :: nat_lit 134 :: nat_lit 135 :: nat_lit 136 :: nat_lit 138 :: nat_lit 139 :: nat_lit 141 :: nat_lit 142 :: nat_lit 143 :: nat_lit 145 :: nat_lit 146 :: nat_lit 148 :: nat_lit 149 :: nat_lit 150 :: nat_lit 152 :: nat_lit 153 :: nat_lit 155 :: nat_lit 156 :: nat_lit 157 :: nat_lit 159 :: nat_lit 160 :: nat_lit 162 :: nat_lit 163 :: nat_lit 164 :: nat_lit 166 :: nat_lit 167 :: nat_lit 169 :: nat_lit 170 :: nat_lit 171 :: nat_lit 173 :: nat_lit 174 :: nat_lit 176 :: nat_lit 177 :: nat_lit 178 :: nat_lit 181 :: nat_lit 182 :: []
theorem as_eq (P : Params) : as = (K P).map (·.1) := by kernel_rfl
noncomputable def H : Hook := kHook K as as_eq
noncomputable abbrev row : RowW := PySem.Challenge.rw_to0001_01.row.toRowW
noncomputable def Xt (s : Shared) : Bool := xlAt q [] s && recOk row.records s
noncomputable def H0 (P : Params) : Heap := absHeap (tree0 P) 11 {}
noncomputable def H1 (P : Params) : Heap := absHeap (treeEnd P) 183 {}
theorem H0_eq (P : Params) : boot_heap P = H0 P := by kernel_rfl
theorem opening_eq : opening PySem.Challenge.pw_to0001_01 = plainProg PySem.Challenge.pw_to0001_01.main.scope.names := by kernel_rfl
theorem fence_eq (s : Shared) : fenceModules? PySem.Challenge.pw_to0001_01 s = some s := by kernel_rfl
theorem open_at (w : World) : (fencedOpening treeTable PySem.Challenge.pw_to0001_01 w 6000).map (fun s => (s.heap, s.gens, s.drawn, s.toks)) = some (H0 w.params, Array.mk [], boot_drawn, boot_toks) :=
  (boot_open opening_eq (by decide) fence_eq w).trans (by rw [H0_eq])
theorem size_at (w : World) : ((H0 w.params).isNs mainGlobals && (Array.mk [] : Array GenState).size == 0, (H0 w.params).objs.size, (H0 w.params).nsMap mainGlobals "__annotations__") = (true, 11, some (.ref 6)) := by kernel_rfl
theorem looks_at (w : World) : (fun os => ((staticsOk (importedModules PySem.Challenge.pw_to0001_01.main.body) (H0 w.params) (H1 w.params) && namesBound PySem.Challenge.pw_to0001_01 (H1 w.params) && gensDone ⟨H1 w.params, Array.mk [], {}, 684, os⟩ && laidKept (H0 w.params) (H1 w.params)),
      openSeen q loose (importedModules PySem.Challenge.pw_to0001_01.main.body) Xt true ⟨H1 w.params, Array.mk [], {}, 684, os⟩, H.obs ⟨H1 w.params, Array.mk [], {}, 684, os⟩)) = fun _ => (true, openGood q loose, H.val w) := by kernel_rfl
theorem run_at (w : World) (os : OsState) : topRun treeTable PySem.Challenge.pw_to0001_01 w 11 (some (.ref 6)) 6000 ⟨H0 w.params, Array.mk [], boot_drawn, boot_toks, os⟩ (topStub PySem.Challenge.pw_to0001_01) = some ⟨H1 w.params, Array.mk [], {}, 684, os⟩ := run_abs w os
theorem left : LeftO PySem.Challenge.pw_to0001_01 q loose Xt H.obs H.val 6000 true :=
  LeftO.of_pieces (H₀ := H0) (H₁ := H1) (gs₀ := Array.mk []) (gs₁ := Array.mk []) (d₀ := boot_drawn) (d₁ := {}) (k₀ := boot_toks) (k₁ := 684) (m₀ := 11) (ann := some (.ref 6)) (M := 6000) open_at size_at run_at (by decide) looks_at
end Mine
end
section
open PySem PySem.W PySem.Calls PyProof.Rows PySem.Flt
set_option Elab.async false
namespace Mine
section
variable {prog : Program} {w : World} {A : Around} {E : Value → Shared → Prop} {s : Shared} {Q : Value → Shared → Prop} {h₀ : Heap} {L : Addr} {m : Str → Option Value} {news : List (Addr × Obj)}
/-- the greatest of three numbers, as the call tells it -/
def pickMax (a b c : Value) : Value := if ltV a b then (if ltV b c then c else b) else (if ltV a c then c else a)
def pickMin (a b c : Value) : Value := if ltV b a then (if ltV c b then c else b) else (if ltV c a then c else a)
theorem three_kept {a b c : Value} {h' : Heap} {wr : List Addr} (hw : wr = [(s.heap.push { cls := .type "tuple", data := .seq #[a, b, c] }).objs.size])
    (hk : ∀ d o, d ∉ wr → (((s.heap.push { cls := .type "tuple", data := .seq #[a, b, c] })).push { cls := .type "tuple_iterator", data := .fields #[.ref s.heap.objs.size, .int 0 0] }).get? d = some o → h'.get? d = some o) :
    ∀ d o, s.heap.get? d = some o → h'.get? d = some o := fun d o e => by
  have hsz : (s.heap.push { cls := .type "tuple", data := .seq #[a, b, c] }).objs.size = s.heap.objs.size + 1 := Heap.size_push ..
  refine hk d o (fun hm => ?_) (Heap.get?_push_of_some _ (Heap.get?_push_of_some _ e))
  subst hw
  rcases List.mem_cons.mp hm with e1 | hm
  · have := Heap.lt_size e; rw [e1, hsz] at this; exact Nat.lt_irrefl _ (Nat.lt_of_succ_lt this)
  · cases hm
theorem max3 {a b c : Value} (hh : A.handled = none) (ha : NumV a) (hb : NumV b) (hc : NumV c) (F : Fr h₀ L s.heap m) (N : News h₀ L s.heap news)
    (h : ∀ h' tk, Fr h₀ L h' m → News h₀ L h' news → Q (pickMax a b c) { s with heap := h', toks := tk }) :
    wpAny (model prog w) A (call (.builtin "max") [a, b, c]) Q E s := by
  have hT : (s.heap.push { cls := .type "tuple", data := .seq #[a, b, c] }).IsTuple s.heap.objs.size #[a, b, c] := ⟨_, Heap.get?_push_size _ rfl, rfl, 0, rfl⟩
  refine call_max_three (wpAny_pyIter_tuple hT ?_)
  have hsz : (s.heap.push { cls := .type "tuple", data := .seq #[a, b, c] }).objs.size = s.heap.objs.size + 1 := Heap.size_push ..
  refine ⟨_, [_, s.heap.objs.size], [_], _, _, _, _, rfl, Walks.tuple (A := A.in1) hh _ s.heap.objs.size (by rw [hsz]; exact Nat.ne_of_lt (Nat.lt_succ_self _)) #[a, b, c],
    ⟨⟨_, Heap.get?_push_size _ rfl, rfl, rfl⟩, hT.push _⟩, fun d hd => ?_, by simp, cmpOf_gt #[a, b, c] (by simp [ha, hb, hc]), fun v h' tk hP hk => ?_⟩
  · show d < ((s.heap.push _).push _).objs.size
    rw [Heap.size_push, hsz]
    rcases List.mem_cons.mp hd with rfl | hd
    · rw [hsz]; exact Nat.lt_succ_self _
    · rcases List.mem_cons.mp hd with rfl | hd
      · exact Nat.lt_succ_of_lt (Nat.lt_succ_self _)
      · cases hd
  · have hold := three_kept rfl hk
    have hv : v = pickMax a b c := by
      unfold pickMax
      cases h1 : ltV a b <;> cases h2 : ltV b c <;> cases h3 : ltV a c <;> simp [argBest, h1, h2, h3] at hP <;> simp [hP]
    rw [hv]; exact h h' tk (F.grownK hold) (N.grown hold)
theorem min3 {a b c : Value} (hh : A.handled = none) (ha : NumV a) (hb : NumV b) (hc : NumV c) (F : Fr h₀ L s.heap m) (N : News h₀ L s.heap news)
    (h : ∀ h' tk, Fr h₀ L h' m → News h₀ L h' news → Q (pickMin a b c) { s with heap := h', toks := tk }) :
    wpAny (model prog w) A (call (.builtin "min") [a, b, c]) Q E s := by
  have hT : (s.heap.push { cls := .type "tuple", data := .seq #[a, b, c] }).IsTuple s.heap.objs.size #[a, b, c] := ⟨_, Heap.get?_push_size _ rfl, rfl, 0, rfl⟩
  refine call_min_three (wpAny_pyIter_tuple hT ?_)
  have hsz : (s.heap.push { cls := .type "tuple", data := .seq #[a, b, c] }).objs.size = s.heap.objs.size + 1 := Heap.size_push ..
  refine ⟨_, [_, s.heap.objs.size], [_], _, _, _, _, rfl, Walks.tuple (A := A.in1) hh _ s.heap.objs.size (by rw [hsz]; exact Nat.ne_of_lt (Nat.lt_succ_self _)) #[a, b, c],
    ⟨⟨_, Heap.get?_push_size _ rfl, rfl, rfl⟩, hT.push _⟩, fun d hd => ?_, by simp, cmpOf_lt #[a, b, c] (by simp [ha, hb, hc]), fun v h' tk hP hk => ?_⟩
  · show d < ((s.heap.push _).push _).objs.size
    rw [Heap.size_push, hsz]
    rcases List.mem_cons.mp hd with rfl | hd
    · rw [hsz]; exact Nat.lt_succ_self _
    · rcases List.mem_cons.mp hd with rfl | hd
      · exact Nat.lt_succ_of_lt (Nat.lt_succ_self _)
      · cases hd
  · have hold := three_kept rfl hk
    have hv : v = pickMin a b c := by
      unfold pickMin
      cases h1 : ltV b a <;> cases h2 : ltV c b <;> cases h3 : ltV c a <;> simp [argBest, h1, h2, h3] at hP <;> simp [hP]
    rw [hv]; exact h h' tk (F.grownK hold) (N.grown hold)
def fmax3 (x y z : UInt64) : UInt64 := if Float64.cmp x y == some .lt then (if Float64.cmp y z == some .lt then z else y) else (if Float64.cmp x z == some .lt then z else x)
def fmin3 (x y z : UInt64) : UInt64 := if Float64.cmp y x == some .lt then (if Float64.cmp z y == some .lt then z else y) else (if Float64.cmp z x == some .lt then z else x)
theorem max3f {x y z : UInt64} {t u v : Tok} (hh : A.handled = none) (F : Fr h₀ L s.heap m) (N : News h₀ L s.heap news)
    (h : ∀ h' tk r, Fr h₀ L h' m → News h₀ L h' news → Q (.float (fmax3 x y z) r) { s with heap := h', toks := tk }) :
    wpAny (model prog w) A (call (.builtin "max") [.float x t, .float y u, .float z v]) Q E s :=
  max3 hh (.float x t) (.float y u) (.float z v) F N fun h' tk F' N' => by
    obtain ⟨r, e⟩ : ∃ r, pickMax (.float x t) (.float y u) (.float z v) = .float (fmax3 x y z) r := by
      unfold pickMax fmax3
      dsimp only [ltV]
      by_cases h1 : (Float64.cmp x y == some .lt) = true <;> by_cases h2 : (Float64.cmp y z == some .lt) = true <;> by_cases h3 : (Float64.cmp x z == some .lt) = true <;> simp only [h1, h2, h3, if_true, if_false, Bool.false_eq_true] <;> exact ⟨_, rfl⟩
    rw [e]
    exact h h' tk r F' N'
theorem min3f {x y z : UInt64} {t u v : Tok} (hh : A.handled = none) (F : Fr h₀ L s.heap m) (N : News h₀ L s.heap news)
    (h : ∀ h' tk r, Fr h₀ L h' m → News h₀ L h' news → Q (.float (fmin3 x y z) r) { s with heap := h', toks := tk }) :
    wpAny (model prog w) A (call (.builtin "min") [.float x t, .float y u, .float z v]) Q E s :=
  min3 hh (.float x t) (.float y u) (.float z v) F N fun h' tk F' N' => by
    obtain ⟨r, e⟩ : ∃ r, pickMin (.float x t) (.float y u) (.float z v) = .float (fmin3 x y z) r := by
      unfold pickMin fmin3
      dsimp only [ltV]
      by_cases h1 : (Float64.cmp y x == some .lt) = true <;> by_cases h2 : (Float64.cmp z y == some .lt) = true <;> by_cases h3 : (Float64.cmp z x == some .lt) = true <;> simp only [h1, h2, h3, if_true, if_false, Bool.false_eq_true] <;> exact ⟨_, rfl⟩
    rw [e]
    exact h h' tk r F' N'
theorem max3i {x y z : Int} {t u v : Tok} (hh : A.handled = none) (F : Fr h₀ L s.heap m) (N : News h₀ L s.heap news)
    (h : ∀ h' tk r M, (M = max x (max y z)) → Fr h₀ L h' m → News h₀ L h' news → Q (.int M r) { s with heap := h', toks := tk }) :
    wpAny (model prog w) A (call (.builtin "max") [.int x t, .int y u, .int z v]) Q E s :=
  max_three_ints hh fun h' tk hk => by
    have k := fun r M e => h h' tk r M e (F.grownK hk) (N.grown hk)
    repeat' split
    all_goals exact k _ _ (by omega)
theorem min3i {x y z : Int} {t u v : Tok} (hh : A.handled = none) (F : Fr h₀ L s.heap m) (N : News h₀ L s.heap news)
    (h : ∀ h' tk r M, (M = min x (min y z)) → Fr h₀ L h' m → News h₀ L h' news → Q (.int M r) { s with heap := h', toks := tk }) :
    wpAny (model prog w) A (call (.builtin "min") [.int x t, .int y u, .int z v]) Q E s :=
  min_three_ints hh fun h' tk hk => by
    have k := fun r M e => h h' tk r M e (F.grownK hk) (N.grown hk)
    repeat' split
    all_goals exact k _ _ (by omega)
end
end Mine
end
section
open PySem PySem.W PySem.Calls PyProof.Rows PySem.Flt
set_option Elab.async false
set_option maxRecDepth 100000
namespace Mine
def hsvH (X Y Z : UInt64) : UInt64 :=
  bif Float64.cmp (fmin3 X Y Z) (fmax3 X Y Z) == some Ordering.eq then 0
  else bif Float64.cmp X (fmax3 X Y Z) == some Ordering.eq then
    (Float64.divmod (Float64.div (Float64.sub (Float64.div (Float64.sub (fmax3 X Y Z) Z) (Float64.sub (fmax3 X Y Z) (fmin3 X Y Z))) (Float64.div (Float64.sub (fmax3 X Y Z) Y) (Float64.sub (fmax3 X Y Z) (fmin3 X Y Z)))) 4618441417868443648) 4607182418800017408).snd
  else bif Float64.cmp Y (fmax3 X Y Z) == some Ordering.eq then
    (Float64.divmod (Float64.div (Float64.sub (Float64.add 4611686018427387904 (Float64.div (Float64.sub (fmax3 X Y Z) X) (Float64.sub (fmax3 X Y Z) (fmin3 X Y Z)))) (Float64.div (Float64.sub (fmax3 X Y Z) Z) (Float64.sub (fmax3 X Y Z) (fmin3 X Y Z)))) 4618441417868443648) 4607182418800017408).snd
  else
    (Float64.divmod (Float64.div (Float64.sub (Float64.add 4616189618054758400 (Float64.div (Float64.sub (fmax3 X Y Z) Y) (Float64.sub (fmax3 X Y Z) (fmin3 X Y Z)))) (Float64.div (Float64.sub (fmax3 X Y Z) X) (Float64.sub (fmax3 X Y Z) (fmin3 X Y Z)))) 4618441417868443648) 4607182418800017408).snd
def hsvOk (X Y Z : UInt64) : Bool := (Float64.cmp (fmin3 X Y Z) (fmax3 X Y Z) == some Ordering.eq) || (!Float64.isZero (fmax3 X Y Z) && !Float64.isZero (Float64.sub (fmax3 X Y Z) (fmin3 X Y Z)))
section
variable {X Y Z : UInt64}
theorem hsv0 (c : (Float64.cmp (fmin3 X Y Z) (fmax3 X Y Z) == some Ordering.eq) = true) : 0 = hsvH X Y Z := by unfold hsvH; rw [c]; rfl
theorem hsv1 (c : (Float64.cmp (fmin3 X Y Z) (fmax3 X Y Z) == some Ordering.eq) = false) (d : (Float64.cmp X (fmax3 X Y Z) == some Ordering.eq) = true) :
    (Float64.divmod (Float64.div (Float64.sub (Float64.div (Float64.sub (fmax3 X Y Z) Z) (Float64.sub (fmax3 X Y Z) (fmin3 X Y Z))) (Float64.div (Float64.sub (fmax3 X Y Z) Y) (Float64.sub (fmax3 X Y Z) (fmin3 X Y Z)))) 4618441417868443648) 4607182418800017408).snd = hsvH X Y Z := by unfold hsvH; rw [c, d]; rfl
theorem hsv2 (c : (Float64.cmp (fmin3 X Y Z) (fmax3 X Y Z) == some Ordering.eq) = false) (d : (Float64.cmp X (fmax3 X Y Z) == some Ordering.eq) = false) (e : (Float64.cmp Y (fmax3 X Y Z) == some Ordering.eq) = true) :
    (Float64.divmod (Float64.div (Float64.sub (Float64.add 4611686018427387904 (Float64.div (Float64.sub (fmax3 X Y Z) X) (Float64.sub (fmax3 X Y Z) (fmin3 X Y Z)))) (Float64.div (Float64.sub (fmax3 X Y Z) Z) (Float64.sub (fmax3 X Y Z) (fmin3 X Y Z)))) 4618441417868443648) 4607182418800017408).snd = hsvH X Y Z := by unfold hsvH; rw [c, d, e]; rfl
theorem hsv3 (c : (Float64.cmp (fmin3 X Y Z) (fmax3 X Y Z) == some Ordering.eq) = false) (d : (Float64.cmp X (fmax3 X Y Z) == some Ordering.eq) = false) (e : (Float64.cmp Y (fmax3 X Y Z) == some Ordering.eq) = false) :
    (Float64.divmod (Float64.div (Float64.sub (Float64.add 4616189618054758400 (Float64.div (Float64.sub (fmax3 X Y Z) Y) (Float64.sub (fmax3 X Y Z) (fmin3 X Y Z)))) (Float64.div (Float64.sub (fmax3 X Y Z) X) (Float64.sub (fmax3 X Y Z) (fmin3 X Y Z)))) 4618441417868443648) 4607182418800017408).snd = hsvH X Y Z := by unfold hsvH; rw [c, d, e]; rfl
theorem hsvNo1 (h : hsvOk X Y Z = true) (c : (Float64.cmp (fmin3 X Y Z) (fmax3 X Y Z) == some Ordering.eq) = false) (z : Float64.isZero (fmax3 X Y Z) = true) : False := by unfold hsvOk at h; rw [c, z] at h; simp at h
theorem hsvNo2 (h : hsvOk X Y Z = true) (c : (Float64.cmp (fmin3 X Y Z) (fmax3 X Y Z) == some Ordering.eq) = false) (z : Float64.isZero (Float64.sub (fmax3 X Y Z) (fmin3 X Y Z)) = true) : False := by unfold hsvOk at h; rw [c, z] at h; simp at h
end
end Mine
end
section
open PySem PySem.W PySem.Calls PyProof.Rows PySem.Flt
set_option Elab.async false
set_option maxRecDepth 100000
namespace Mine
def fl (n : Int) : UInt64 := Float64.ofFrac (decide (n < 0) != decide ((64 : Int) < 0)) n.natAbs (Int.natAbs 64)
def partV (r g b : Int) : UInt64 := Float64.mul (Float64.mul (hsvH (fl r) (fl g) (fl b)) (Float64.ofInt 6)) (Float64.ofInt (max r (max g b) - min r (min g b)))
def chk (r g b : Int) : Bool := hsvOk (fl r) (fl g) (fl b) && Float64.isFinite (partV r g b) &&
  ((decide (0 < toInt Float64.nearestOf (partV r g b)) && decide (toInt Float64.nearestOf (partV r g b) < max r (max g b) - min r (min g b))) == (decide (b < g) && decide (g < r)))
def chkRow (r : Nat) : Bool := (List.range 8).all fun g => (List.range 6).all fun b => chk (r + 2 : Nat) (g + 1 : Nat) b
theorem chk0 : chkRow 0 = true := by decide +kernel
theorem chk1 : chkRow 1 = true := by decide +kernel
theorem chk2 : chkRow 2 = true := by decide +kernel
theorem chk3 : chkRow 3 = true := by decide +kernel
theorem chk4 : chkRow 4 = true := by decide +kernel
theorem chk5 : chkRow 5 = true := by decide +kernel
theorem chk6 : chkRow 6 = true := by decide +kernel
theorem chk7 : chkRow 7 = true := by decide +kernel
theorem chk8 : chkRow 8 = true := by decide +kernel
theorem chk9 : chkRow 9 = true := by decide +kernel
theorem chk10 : chkRow 10 = true := by decide +kernel
theorem chk11 : chkRow 11 = true := by decide +kernel
theorem chkAll : ∀ r, r < 12 → chkRow r = true
  | 0, _ => chk0
  | 1, _ => chk1
  | 2, _ => chk2
  | 3, _ => chk3
  | 4, _ => chk4
  | 5, _ => chk5
  | 6, _ => chk6
  | 7, _ => chk7
  | 8, _ => chk8
  | 9, _ => chk9
  | 10, _ => chk10
  | 11, _ => chk11
  | n + 12, h => absurd h (by omega)
theorem chk_of {r g b : Int} (hr0 : 2 ≤ r) (hr1 : r ≤ 13) (hg0 : 1 ≤ g) (hg1 : g ≤ 8) (hb0 : 0 ≤ b) (hb1 : b ≤ 5) : chk r g b = true := by
  have h := chkAll (r - 2).toNat (by omega)
  unfold chkRow at h
  have h1 := List.all_eq_true.mp h (g - 1).toNat (List.mem_range.mpr (by omega))
  have h2 := List.all_eq_true.mp h1 b.toNat (List.mem_range.mpr (by omega))
  have e1 : (((r - 2).toNat + 2 : Nat) : Int) = r := by omega
  have e2 : (((g - 1).toNat + 1 : Nat) : Int) = g := by omega
  have e3 : ((b.toNat : Nat) : Int) = b := by omega
  rw [e1, e2, e3] at h2
  exact h2
theorem fin_nan {x : UInt64} (h : Float64.isFinite x = true) : Float64.isNaN x = false := by
  unfold Float64.isFinite at h
  unfold Float64.isNaN
  split at h
  · rename_i e; rw [e]
  · cases h
theorem fin_inf {x : UInt64} (h : Float64.isFinite x = true) : Float64.isInf x = false := by
  unfold Float64.isFinite at h
  unfold Float64.isInf
  split at h
  · rename_i e; rw [e]
  · cases h
section
variable {r g b : Int}
theorem chk_hsv (h : chk r g b = true) : hsvOk (fl r) (fl g) (fl b) = true := by
  unfold chk at h; simp only [Bool.and_eq_true] at h; exact h.1.1
theorem chk_fin (h : chk r g b = true) : Float64.isFinite (partV r g b) = true := by
  unfold chk at h; simp only [Bool.and_eq_true] at h; exact h.1.2
theorem chk_val (h : chk r g b = true) : (decide (0 < toInt Float64.nearestOf (partV r g b)) && decide (toInt Float64.nearestOf (partV r g b) < max r (max g b) - min r (min g b))) = (decide (b < g) && decide (g < r)) := by
  unfold chk at h; simp only [Bool.and_eq_true] at h; exact beq_iff_eq.mp h.2
theorem endA (h : chk r g b = true) (a : 0 < toInt Float64.nearestOf (partV r g b)) : decide (toInt Float64.nearestOf (partV r g b) < max r (max g b) - min r (min g b)) = (decide (b < g) && decide (g < r)) := by
  have := chk_val h
  rwa [decide_eq_true a, Bool.true_and] at this
theorem endB (h : chk r g b = true) (a : ¬ 0 < toInt Float64.nearestOf (partV r g b)) : decide (0 < toInt Float64.nearestOf (partV r g b)) = (decide (b < g) && decide (g < r)) := by
  have := chk_val h
  rw [decide_eq_false a, Bool.false_and] at this
  rw [decide_eq_false a]
  exact this
theorem endN (h : chk r g b = true) (a : Float64.isNaN (partV r g b) = true) : False := by rw [fin_nan (chk_fin h)] at a; cases a
theorem endI (h : chk r g b = true) (a : Float64.isInf (partV r g b) = true) : False := by rw [fin_inf (chk_fin h)] at a; cases a
end
end Mine
end
section
open PySem PySem.W PySem.Calls PyProof.Rows PySem.Flt
set_option Elab.async false
set_option maxRecDepth 100000
namespace Mine
/-- a stand's number of ways, from those told before it -/
def wCell (s0 s1 s2 : Int) (c : List (Int × Int)) (r g b : Int) : Int :=
  if (decide (b < g) && decide (g < r)) = true then
    (if r = s0 ∧ g = s1 ∧ b = s2 then 1 else kdfLook c (256 * r + 16 * g + b - 256) 0 + kdfLook c (256 * r + 16 * g + b - 16) 0 + kdfLook c (256 * r + 16 * g + b - 1) 0)
  else 0
def wB (s0 s1 s2 r g : Int) (c : List (Int × Int)) (b : Int) : List (Int × Int) := kdfPut c (256 * r + 16 * g + b) (wCell s0 s1 s2 c r g b)
def wG (s0 s1 s2 : Int) (n2 : Nat) (r : Int) (c : List (Int × Int)) (g : Int) : List (Int × Int) := (rangeKs s2 n2).foldl (wB s0 s1 s2 r g) c
def wR (s0 s1 s2 : Int) (n1 n2 : Nat) (c : List (Int × Int)) (r : Int) : List (Int × Int) := (rangeKs s1 n1).foldl (wG s0 s1 s2 n2 r) c
def ways (s0 s1 s2 : Int) (n0 n1 n2 : Nat) : List (Int × Int) := (rangeKs s0 n0).foldl (wR s0 s1 s2 n1 n2) []
theorem foldl_snoc {α β : Type} (f : α → β → α) (a : α) (l : List β) (x : β) : (l ++ [x]).foldl f a = f (l.foldl f a) x := by simp
end Mine
end
section
open PySem PySem.W PySem.Calls PyProof.Rows PySem.Flt
set_option Elab.async false
set_option maxRecDepth 100000
namespace Mine
section
variable {s0 s1 s2 r g b : Int} {c : List (Int × Int)}
theorem wB_one (h : (decide (b < g) && decide (g < r)) = true) (e : r = s0 ∧ g = s1 ∧ b = s2) : kdfPut c (256 * r + 16 * g + b) 1 = wB s0 s1 s2 r g c b := by unfold wB wCell; rw [if_pos h, if_pos e]
theorem wB_sum (h : (decide (b < g) && decide (g < r)) = true) (e : ¬ (r = s0 ∧ g = s1 ∧ b = s2)) : kdfPut c (256 * r + 16 * g + b) (kdfLook c (256 * r + 16 * g + b - 256) 0 + kdfLook c (256 * r + 16 * g + b - 16) 0 + kdfLook c (256 * r + 16 * g + b - 1) 0) = wB s0 s1 s2 r g c b := by
  unfold wB wCell; rw [if_pos h, if_neg e]
theorem wB_nil (h : (decide (b < g) && decide (g < r)) = false) : kdfPut c (256 * r + 16 * g + b) 0 = wB s0 s1 s2 r g c b := by unfold wB wCell; rw [h]; rfl
end
theorem has_foldl {α : Type} (f : List (Int × Int) → α → List (Int × Int)) (j : Int) (hf : ∀ c a, kdfHas c j = true → kdfHas (f c a) j = true) : ∀ (l : List α) (c : List (Int × Int)), kdfHas c j = true → kdfHas (l.foldl f c) j = true
  | [], _, h => h
  | a :: r, c, h => has_foldl f j hf r (f c a) (hf c a h)
theorem has_mem {α : Type} (f : List (Int × Int) → α → List (Int × Int)) (j : Int) (hf : ∀ c a, kdfHas c j = true → kdfHas (f c a) j = true) (a : α) (ha : ∀ c, kdfHas (f c a) j = true) : ∀ (l : List α) (c : List (Int × Int)), a ∈ l → kdfHas (l.foldl f c) j = true
  | x :: r, c, h => by
    rcases List.mem_cons.mp h with rfl | h
    · exact has_foldl f j hf r _ (ha c)
    · exact has_mem f j hf a ha r _ h
theorem wB_keeps (s0 s1 s2 r g : Int) (j : Int) (c : List (Int × Int)) (b : Int) (h : kdfHas c j = true) : kdfHas (wB s0 s1 s2 r g c b) j = true := by unfold wB; rw [kdyHas_put, h, Bool.or_true]
theorem wG_keeps (s0 s1 s2 r : Int) (n : Nat) (j : Int) (c : List (Int × Int)) (g : Int) (h : kdfHas c j = true) : kdfHas (wG s0 s1 s2 n r c g) j = true := has_foldl _ j (wB_keeps s0 s1 s2 r g j) _ _ h
theorem wR_keeps (s0 s1 s2 : Int) (n1 n : Nat) (j : Int) (c : List (Int × Int)) (r : Int) (h : kdfHas c j = true) : kdfHas (wR s0 s1 s2 n1 n c r) j = true := has_foldl _ j (wG_keeps s0 s1 s2 r n j) _ _ h
theorem mem_range_of {a g : Int} (h : a ≤ g) : g ∈ rangeKs a (g + 1 - a).toNat := by
  unfold rangeKs
  exact List.mem_map.mpr ⟨(g - a).toNat, List.mem_range.mpr (by omega), by omega⟩
theorem ways_has {s0 s1 s2 g0 g1 g2 : Int} (h0 : s0 ≤ g0) (h1 : s1 ≤ g1) (h2 : s2 ≤ g2) :
    kdfHas (ways s0 s1 s2 (g0 + 1 - s0).toNat (g1 + 1 - s1).toNat (g2 + 1 - s2).toNat) (256 * g0 + 16 * g1 + g2) = true := by
  unfold ways
  refine has_mem _ _ (wR_keeps s0 s1 s2 _ _ _) g0 (fun c => ?_) _ _ (mem_range_of h0)
  refine has_mem _ _ (wG_keeps s0 s1 s2 g0 _ _) g1 (fun c => ?_) _ _ (mem_range_of h1)
  refine has_mem _ _ (wB_keeps s0 s1 s2 g0 g1 _) g2 (fun c => ?_) _ _ (mem_range_of h2)
  unfold wB
  rw [kdyHas_put]
  simp
section
variable {prog : Program} {w : World} {A : Around} {E : Value → Shared → Prop} {s : Shared} {Q : Value → Shared → Prop} {h₀ : Heap} {L : Addr} {m : Str → Option Value} {news : List (Addr × Obj)}
theorem item_news {value slice : PySem.Expr} {l : Addr} {vs : List Value} {n : Nat} {k : Int} {u : Tok} {v : Value} (N : News h₀ L s.heap news) (hm : (l, W.listOf vs.toArray n) ∈ news)
    (h0 : 0 ≤ k) (hhi : k < 2 ^ 63) (hx : vs[k.toNat]? = some v) (h : Q v s)
    (hs : subscripted slice false (.ref l) (.int k u) = operate [.ref l, .int k u] (getItem (.ref l) (.int k u)) := by with_unfolding_all rfl) :
    wpAny (model prog w) A (subscriptTail value slice (.ref l) (.int k u)) Q E s := by
  have hl : s.heap.IsList l vs.toArray := ⟨_, (N _ hm).1, rfl, n, rfl⟩
  exact tail_any hl.typeIs slot_list_getitem.lookup (wpAny_getItem_list hl h0 hhi (by simpa using hx) h) hs
theorem eq_tup3 {a b : Addr} {x0 x1 x2 y0 y1 y2 : Int} {t0 t1 t2 u0 u1 u2 : Tok} (N : News h₀ L s.heap news)
    (ha : (a, ({ cls := .type "tuple", data := .seq #[.int x0 t0, .int x1 t1, .int x2 t2] } : Obj)) ∈ news) (hb : (b, ({ cls := .type "tuple", data := .seq #[.int y0 u0, .int y1 u1, .int y2 u2] } : Obj)) ∈ news)
    (hu : A.units + 64 < cLine) (h : Q (.bool (decide (x0 = y0 ∧ x1 = y1 ∧ x2 = y2))) s) : wpAny (model prog w) A (compareOp .Eq (.ref a) (.ref b)) Q E s := by
  refine eq_dataH (reads_tuple_at (News.get N ha) rfl rfl (.cons (.int _ _) (.cons (.int _ _) (.cons (.int _ _) .nil)))) (reads_tuple_at (News.get N hb) rfl rfl (.cons (.int _ _) (.cons (.int _ _) (.cons (.int _ _) .nil)))) rfl rfl hu ?_
  have e : PyData.eqv (PyData.tuple [PyData.int x0, PyData.int x1, PyData.int x2]) (PyData.tuple [PyData.int y0, PyData.int y1, PyData.int y2]) = decide (x0 = y0 ∧ x1 = y1 ∧ x2 = y2) := by
    simp only [PyData.eqv, PyData.eqvAll]
    by_cases h0 : x0 = y0 <;> by_cases h1 : x1 = y1 <;> by_cases h2 : x2 = y2 <;> simp [h0, h1, h2]
  rw [e]
  exact h
end
end Mine
end
section
open PySem PySem.W PySem.Calls PyProof.Rows PySem.Flt
set_option Elab.async false
set_option maxRecDepth 100000
namespace Mine
def fact9 : List Int := [1, 1, 2, 6, 24, 120, 720, 5040, 40320]
def fct (k : Int) : Int := fact9.getD k.toNat 0
theorem fct_pos {k : Int} (h0 : 0 ≤ k) (h1 : k ≤ 8) : 0 < fct k := by
  have : k = 0 ∨ k = 1 ∨ k = 2 ∨ k = 3 ∨ k = 4 ∨ k = 5 ∨ k = 6 ∨ k = 7 ∨ k = 8 := by omega
  rcases this with rfl | rfl | rfl | rfl | rfl | rfl | rfl | rfl | rfl <;> decide
theorem prod_pos {a b c : Int} (a0 : 0 ≤ a) (a1 : a ≤ 8) (b0 : 0 ≤ b) (b1 : b ≤ 8) (c0 : 0 ≤ c) (c1 : c ≤ 8) : fct a * fct b * fct c ≠ 0 :=
  Int.ne_of_gt (Int.mul_pos (Int.mul_pos (fct_pos a0 a1) (fct_pos b0 b1)) (fct_pos c0 c1))
/-- one exchange's term -/
def sTerm (a b c : Int) (p : Bool) : Int := if min a (min b c) < 0 then 0 else if p then Int.fdiv 40320 (fct a * fct b * fct c) else - Int.fdiv 40320 (fct a * fct b * fct c)
def pick3 (x y z : Int) (i : Int) : Int := if i = 0 then x else if i = 1 then y else z
def sJ (s0 s1 s2 f0 f1 f2 i : Int) (told j : Int) : Int :=
  if i = j then told else told + sTerm (f0 - pick3 s0 s1 s2 i) (f1 - pick3 s0 s1 s2 j) (f2 - pick3 s0 s1 s2 (3 - i - j)) (decide (Int.fmod (j - i) 3 = 1))
def sI (s0 s1 s2 f0 f1 f2 : Int) (told i : Int) : Int := (rangeKs 0 3).foldl (sJ s0 s1 s2 f0 f1 f2 i) told
def signed (s0 s1 s2 f0 f1 f2 : Int) : Int := (rangeKs 0 3).foldl (sI s0 s1 s2 f0 f1 f2) 0
section
variable {s0 s1 s2 f0 f1 f2 c : Int}
theorem sj00 : c = sJ s0 s1 s2 f0 f1 f2 0 c 0 := rfl
theorem sj01 (h : ¬ min (f0 - s0) (min (f1 - s1) (f2 - s2)) < 0) : c + Int.fdiv 40320 (fct (f0 - s0) * fct (f1 - s1) * fct (f2 - s2)) = sJ s0 s1 s2 f0 f1 f2 0 c 1 := by
  have e : sJ s0 s1 s2 f0 f1 f2 0 c 1 = c + sTerm (f0 - s0) (f1 - s1) (f2 - s2) true := rfl
  rw [e]; unfold sTerm; rw [if_neg h]; rfl
theorem sn01 (h : min (f0 - s0) (min (f1 - s1) (f2 - s2)) < 0) : c = sJ s0 s1 s2 f0 f1 f2 0 c 1 := by
  have e : sJ s0 s1 s2 f0 f1 f2 0 c 1 = c + sTerm (f0 - s0) (f1 - s1) (f2 - s2) true := rfl
  rw [e]; unfold sTerm; rw [if_pos h, Int.add_zero]
theorem sj02 (h : ¬ min (f0 - s0) (min (f1 - s2) (f2 - s1)) < 0) : c + -Int.fdiv 40320 (fct (f0 - s0) * fct (f1 - s2) * fct (f2 - s1)) = sJ s0 s1 s2 f0 f1 f2 0 c 2 := by
  have e : sJ s0 s1 s2 f0 f1 f2 0 c 2 = c + sTerm (f0 - s0) (f1 - s2) (f2 - s1) false := rfl
  rw [e]; unfold sTerm; rw [if_neg h]; rfl
theorem sn02 (h : min (f0 - s0) (min (f1 - s2) (f2 - s1)) < 0) : c = sJ s0 s1 s2 f0 f1 f2 0 c 2 := by
  have e : sJ s0 s1 s2 f0 f1 f2 0 c 2 = c + sTerm (f0 - s0) (f1 - s2) (f2 - s1) false := rfl
  rw [e]; unfold sTerm; rw [if_pos h, Int.add_zero]
theorem sj10 (h : ¬ min (f0 - s1) (min (f1 - s0) (f2 - s2)) < 0) : c + -Int.fdiv 40320 (fct (f0 - s1) * fct (f1 - s0) * fct (f2 - s2)) = sJ s0 s1 s2 f0 f1 f2 1 c 0 := by
  have e : sJ s0 s1 s2 f0 f1 f2 1 c 0 = c + sTerm (f0 - s1) (f1 - s0) (f2 - s2) false := rfl
  rw [e]; unfold sTerm; rw [if_neg h]; rfl
theorem sn10 (h : min (f0 - s1) (min (f1 - s0) (f2 - s2)) < 0) : c = sJ s0 s1 s2 f0 f1 f2 1 c 0 := by
  have e : sJ s0 s1 s2 f0 f1 f2 1 c 0 = c + sTerm (f0 - s1) (f1 - s0) (f2 - s2) false := rfl
  rw [e]; unfold sTerm; rw [if_pos h, Int.add_zero]
theorem sj11 : c = sJ s0 s1 s2 f0 f1 f2 1 c 1 := rfl
theorem sj12 (h : ¬ min (f0 - s1) (min (f1 - s2) (f2 - s0)) < 0) : c + Int.fdiv 40320 (fct (f0 - s1) * fct (f1 - s2) * fct (f2 - s0)) = sJ s0 s1 s2 f0 f1 f2 1 c 2 := by
  have e : sJ s0 s1 s2 f0 f1 f2 1 c 2 = c + sTerm (f0 - s1) (f1 - s2) (f2 - s0) true := rfl
  rw [e]; unfold sTerm; rw [if_neg h]; rfl
theorem sn12 (h : min (f0 - s1) (min (f1 - s2) (f2 - s0)) < 0) : c = sJ s0 s1 s2 f0 f1 f2 1 c 2 := by
  have e : sJ s0 s1 s2 f0 f1 f2 1 c 2 = c + sTerm (f0 - s1) (f1 - s2) (f2 - s0) true := rfl
  rw [e]; unfold sTerm; rw [if_pos h, Int.add_zero]
theorem sj20 (h : ¬ min (f0 - s2) (min (f1 - s0) (f2 - s1)) < 0) : c + Int.fdiv 40320 (fct (f0 - s2) * fct (f1 - s0) * fct (f2 - s1)) = sJ s0 s1 s2 f0 f1 f2 2 c 0 := by
  have e : sJ s0 s1 s2 f0 f1 f2 2 c 0 = c + sTerm (f0 - s2) (f1 - s0) (f2 - s1) true := rfl
  rw [e]; unfold sTerm; rw [if_neg h]; rfl
theorem sn20 (h : min (f0 - s2) (min (f1 - s0) (f2 - s1)) < 0) : c = sJ s0 s1 s2 f0 f1 f2 2 c 0 := by
  have e : sJ s0 s1 s2 f0 f1 f2 2 c 0 = c + sTerm (f0 - s2) (f1 - s0) (f2 - s1) true := rfl
  rw [e]; unfold sTerm; rw [if_pos h, Int.add_zero]
theorem sj21 (h : ¬ min (f0 - s2) (min (f1 - s1) (f2 - s0)) < 0) : c + -Int.fdiv 40320 (fct (f0 - s2) * fct (f1 - s1) * fct (f2 - s0)) = sJ s0 s1 s2 f0 f1 f2 2 c 1 := by
  have e : sJ s0 s1 s2 f0 f1 f2 2 c 1 = c + sTerm (f0 - s2) (f1 - s1) (f2 - s0) false := rfl
  rw [e]; unfold sTerm; rw [if_neg h]; rfl
theorem sn21 (h : min (f0 - s2) (min (f1 - s1) (f2 - s0)) < 0) : c = sJ s0 s1 s2 f0 f1 f2 2 c 1 := by
  have e : sJ s0 s1 s2 f0 f1 f2 2 c 1 = c + sTerm (f0 - s2) (f1 - s1) (f2 - s0) false := rfl
  rw [e]; unfold sTerm; rw [if_pos h, Int.add_zero]
theorem sj22 : c = sJ s0 s1 s2 f0 f1 f2 2 c 2 := rfl
end
section
variable {prog : Program} {w : World} {A : Around} {E : Value → Shared → Prop} {s : Shared} {Q : Value → Shared → Prop} {h₀ : Heap} {L : Addr} {m : Str → Option Value} {news : List (Addr × Obj)}
theorem intsAre_at {vs : List Value} {ns : List Int} (hI : IntsAre vs ns) : ∀ {i : Nat}, i < ns.length → ∃ t, vs[i]? = some (.int (ns.getD i 0) t) := by
  induction hI with
  | nil => intro i h; cases h
  | cons n t _ ih =>
    intro i h
    cases i with
    | zero => exact ⟨t, rfl⟩
    | succ i => simpa using ih (i := i) (by simpa using h)
theorem item_fact {value slice : PySem.Expr} {l : Addr} {vs : List Value} {n : Nat} {k : Int} {u : Tok} (N : News h₀ L s.heap news) (hm : (l, W.listOf vs.toArray n) ∈ news) (hI : IntsAre vs fact9)
    (h0 : 0 ≤ k) (h1 : k ≤ 8) (h : ∀ t, Q (.int (fct k) t) s)
    (hs : subscripted slice false (.ref l) (.int k u) = operate [.ref l, .int k u] (getItem (.ref l) (.int k u)) := by with_unfolding_all rfl) :
    wpAny (model prog w) A (subscriptTail value slice (.ref l) (.int k u)) Q E s := by
  obtain ⟨t, ht⟩ := intsAre_at hI (i := k.toNat) (by simp [fact9]; omega)
  exact item_news N hm h0 (by omega) ht (h t) hs
theorem item_last {value slice : PySem.Expr} {l : Addr} {vs : List Value} {n j : Nat} {u : Tok} (N : News h₀ L s.heap news) (hm : (l, W.listOf vs.toArray n) ∈ news) (hI : IntsAre vs (fact9.take (j + 1))) (hj : j < 8)
    (h : ∀ t, Q (.int (fct j) t) s)
    (hs : subscripted slice false (.ref l) (.int (-1) u) = operate [.ref l, .int (-1) u] (getItem (.ref l) (.int (-1) u)) := by with_unfolding_all rfl) :
    wpAny (model prog w) A (subscriptTail value slice (.ref l) (.int (-1) u)) Q E s := by
  have hl : s.heap.IsList l vs.toArray := ⟨_, (N _ hm).1, rfl, n, rfl⟩
  have hlen : vs.length = j + 1 := by rw [IntsAre.length hI]; simp [fact9]; omega
  obtain ⟨t, ht⟩ := intsAre_at hI (i := j) (by simp [fact9]; omega)
  have e : (fact9.take (j + 1)).getD j 0 = fct j := by
    unfold fct
    simp [List.getD]
  rw [e] at ht
  refine tail_any hl.typeIs slot_list_getitem.lookup (wpAny_getItem_list_neg hl (by omega) (by rw [List.size_toArray, hlen]; omega) (by omega) ?_ (h t)) hs
  rw [List.size_toArray, hlen, show (-1 + ((j + 1 : Nat) : Int)).toNat = j by omega]
  simpa using ht
theorem take_next : ∀ j : Nat, j < 8 → fact9.take (j + 1 + 1) = fact9.take (j + 1) ++ [fct j * (1 + (j : Int))]
  | 0, _ => by decide
  | 1, _ => by decide
  | 2, _ => by decide
  | 3, _ => by decide
  | 4, _ => by decide
  | 5, _ => by decide
  | 6, _ => by decide
  | 7, _ => by decide
  | n + 8, h => absurd h (by omega)
theorem ints_next {vs : List Value} {j : Nat} (hI : IntsAre vs (fact9.take (j + 1))) (hj : j < 8) (t : Tok) : IntsAre (vs ++ [.int (fct j * (1 + (j : Int))) t]) (fact9.take (j + 1 + 1)) := by
  rw [take_next j hj]
  exact IntsAre.append hI (.cons _ _ .nil)
theorem fct_bits (k : Int) : Builtin.Int.intBits (fct k) ≤ 64 := by
  unfold fct
  rcases h : k.toNat with _ | _ | _ | _ | _ | _ | _ | _ | _ | n
  · decide
  · decide
  · decide
  · decide
  · decide
  · decide
  · decide
  · decide
  · decide
  · have e : fact9.getD (n + 9) 0 = 0 := rfl
    rw [show n + 1 + 1 + 1 + 1 + 1 + 1 + 1 + 1 + 1 = n + 9 from rfl, e]
    decide
theorem mul_fct {a k : Int} {t u : Tok} (h : Q (.int (a * fct k) s.toks) { s with toks := s.toks + 1 }) : wpAny (model prog w) A (binaryOp .Mult (.int a t) (.int (fct k) u)) Q E s :=
  PyProof.Rows.mul_int h (.of_right (fct_bits k))
theorem fct_le (k : Int) : (fct k).natAbs ≤ 40320 := by
  unfold fct
  rcases h : k.toNat with _ | _ | _ | _ | _ | _ | _ | _ | _ | n
  · decide
  · decide
  · decide
  · decide
  · decide
  · decide
  · decide
  · decide
  · decide
  · have e : fact9.getD (n + 9) 0 = 0 := rfl
    rw [show n + 1 + 1 + 1 + 1 + 1 + 1 + 1 + 1 + 1 = n + 9 from rfl, e]
    decide
theorem prod_log (a b c : Int) : (fct a * fct b * fct c).natAbs.log2 < 9000 := by
  have h : (fct a * fct b * fct c).natAbs ≤ 40320 * 40320 * 40320 := by
    rw [Int.natAbs_mul, Int.natAbs_mul]
    exact Nat.mul_le_mul (Nat.mul_le_mul (fct_le a) (fct_le b)) (fct_le c)
  by_cases h0 : (fct a * fct b * fct c).natAbs = 0
  · rw [h0]; decide
  · exact Nat.lt_trans ((Nat.log2_lt h0).mpr (Nat.lt_of_le_of_lt h (by decide : 40320 * 40320 * 40320 < 2 ^ 50))) (by decide)
theorem div_fct {a b c : Int} {t u : Tok} (a0 : 0 ≤ a) (a1 : a ≤ 8) (b0 : 0 ≤ b) (b1 : b ≤ 8) (c0 : 0 ≤ c) (c1 : c ≤ 8) (h : Q (.int (Int.fdiv 40320 (fct a * fct b * fct c)) s.toks) { s with toks := s.toks + 1 }) :
    wpAny (model prog w) A (binaryOp .FloorDiv (.int (fct 8) t) (.int (fct a * fct b * fct c) u)) Q E s := by
  have e : fct 8 = 40320 := by decide
  rw [e]
  exact floordiv_int (prod_pos a0 a1 b0 b1 c0 c1) h (Or.inl (PyProof.noPylong_of_log2 (prod_log a b c)))
end
end Mine
end
section
open PySem PySem.W PySem.Calls PyProof.Rows PySem.Flt
set_option Elab.async false
set_option maxRecDepth 100000
namespace Mine
def sgn2 (x y : Bool) : Int := b2i x - b2i y
theorem sgn2_bits (x y : Bool) : Builtin.Int.intBits (b2i x - b2i y) ≤ 64 := by cases x <;> cases y <;> decide
/-- the sign of an order of three -/
def rank (r g b : Int) : Int := (b2i (decide (g < r)) - b2i (decide (r < g))) * (b2i (decide (b < g)) - b2i (decide (g < b))) * (b2i (decide (b < r)) - b2i (decide (r < b)))
section
variable {prog : Program} {w : World} {A : Around} {E : Value → Shared → Prop} {s : Shared} {Q : Value → Shared → Prop}
theorem mul_b2i {a : Int} {x y : Bool} {t u : Tok} (h : Q (.int (a * (b2i x - b2i y)) s.toks) { s with toks := s.toks + 1 }) : wpAny (model prog w) A (binaryOp .Mult (.int a t) (.int (b2i x - b2i y) u)) Q E s :=
  PyProof.Rows.mul_int h (.of_right (sgn2_bits x y))
end
end Mine
end
section
open PySem PySem.W PySem.Calls PyProof.Rows PySem.Spec
set_option Elab.async false
set_option maxHeartbeats 1000000
namespace Mine
def LoopC (prog : Program) (w : World) (A : Around) (env : Env) (x : Str) (px : Pos) (body : List Stmt) (Q : Flow → Shared → Prop) (E : Value → Shared → Prop) (it : Value) (s₂ : Shared) : Prop :=
  codeAny (model prog w) A (.forLoop (.Name x px) it body [] env) (fun r s' => match r with | .ok f => Q f s' | .error e => cameBackBy (model prog w) A env E e s') s₂
section
variable {prog : Program} {w : World} {A : Around} {E : Value → Shared → Prop} {s : Shared} {env : Env} {h₀ : Heap} {x : Str} {body : List Stmt} {Q : Flow → Shared → Prop}
theorem For_C {m : Str → Option Value} {px pos : Pos} {iter : Expr} (_F : Fr h₀ env.locals s.heap m)
    (h : wpAny (model prog w) A (eval iter env) (fun xv s₁ => wpAny (model prog w) A (pyIter xv) (fun it s₂ => LoopC prog w A env x px body Q E it s₂) E s₁) E s)
    (hs : ∀ x, foldedSetIterable iter env x = pure x := by intro _; rfl) :
    wpAny (model prog w) A (exec (.For (.Name x px) iter body [] pos) env) Q E s := wpAny_For h hs

theorem kst_textT {σ : Type} {px : Pos} {xt : PySem.Str} {tx : Tok} {m₀ : PySem.Str → Option Value} (Led : σ → List (Addr × Obj)) (ps : σ → List (PySem.Str × Value)) (Facts : σ → Prop) (stored : List PySem.Str) (P : List Int → σ → Prop) (c₀ : σ) (t0 : Nat)
    (ht0 : t0 ≤ s.toks) (ha : xt.cps.all (· < 128) = true) (hx : env.kindOf x = some .local)
    (hpe : (env.scope.kind == .class || (env.scope.kind == .module && env.locals != env.globals)) = false)
    (hE : PassesOwn (model prog w) A env E)
    (hh : A.handled = none) (F : Fr h₀ env.locals s.heap m₀) (N : News h₀ env.locals s.heap (Led c₀)) (hf : Facts c₀) (hk : ∀ p ∈ ps c₀, m₀ p.1 = some p.2) (hp : P [] c₀)
    (turn : ∀ (c : σ) (pre post : List Int) (n : Nat) t (u : PySem.Str → Option Value) h tk own, t0 ≤ t → t0 ≤ tk → KStt.codes xt = pre ++ (n : Int) :: post → OwnOff own ((Led c₀).map (·.1)) → Facts c → P pre c →
      Fr h₀ env.locals h (fun y => if y = x then some (.str ⟨#[n]⟩ t) else kstB (fun z => if stored.contains z then u z else m₀ z) (ps c) y) → News h₀ env.locals h (Led c ++ own) →
      wpAny (model prog w) A (execs body env) (InvPostN h₀ env.locals (KstS Led ps Facts x stored m₀ P (pre ++ [(n : Int)])) own ((Led c₀).map (·.1)) { s with heap := h, toks := tk } Q) E { s with heap := h, toks := tk })
    (done : ∀ (c : σ) (u : PySem.Str → Option Value) h tk, t0 ≤ tk → Facts c → P (KStt.codes xt) c → Fr h₀ env.locals h (fun y => if y = x then u y else kstB (fun z => if stored.contains z then u z else m₀ z) (ps c) y) → News h₀ env.locals h (Led c) → Q .next { s with heap := h, toks := tk }) :
    wpAny (model prog w) A (pyIter (.str xt tx)) (fun it s₂ => LoopC prog w A env x px body Q E it s₂) E s := by
  refine wpAny_pyIter_ascii ha ?_
  have hnI : h₀.get? s.heap.objs.size = none := next_is_new F
  have hLI : env.locals ≠ s.heap.objs.size := fun e => absurd F.ns.lt (e ▸ Nat.lt_irrefl _)
  have hadr : ∀ b ∈ (Led c₀).map (·.1), b ≠ s.heap.objs.size := by
    rintro b hb rfl
    obtain ⟨p, hp1, hp2⟩ := List.mem_map.mp hb
    exact absurd (Heap.lt_size (N p hp1).1) (hp2 ▸ Nat.lt_irrefl _)
  have off : ∀ nx : List (Addr × Obj), nx.map (·.1) = (Led c₀).map (·.1) → ∀ p ∈ nx, p.1 ≠ s.heap.objs.size := by
    intro nx h1 p hp1
    exact hadr _ (h1 ▸ List.mem_map.mpr ⟨p, hp1, rfl⟩)
  show codeAny _ _ _ _ _
  refine codeAny_forLoop
    (fun k s' => ∃ h' tk m' news' i, s' = { s with heap := h', toks := tk } ∧ t0 ≤ tk ∧ h'.IsStrIter s.heap.objs.size "str_ascii_iterator" xt tx i ∧ Fr h₀ env.locals h' m' ∧ News h₀ env.locals h' news' ∧ news'.map (·.1) = (Led c₀).map (·.1) ∧
      KstS Led ps Facts x stored m₀ P ((KStt.codes xt).take i) m' news' ∧ i ≤ xt.cps.size ∧ k = xt.cps.size + 1 - i) ?_ (xt.cps.size + 1)
    ⟨_, s.toks, m₀, Led c₀, 0, rfl, ht0, ⟨_, Heap.get?_push_size _ rfl, rfl, rfl⟩, F.push _, fun p hp => ⟨Heap.get?_push_of_some _ (N p hp).1, (N p hp).2⟩, rfl, ⟨c₀, rfl, hf, hk, fun _ _ _ _ => rfl, by simpa using hp⟩, Nat.zero_le _, rfl⟩
  rintro k s' ⟨h', tk, m', news', i, rfl, htk, hst', F', N', ha', hJ, hi, rfl⟩
  have next : ∀ h₁ : Heap, Heap.SameBut s.heap.objs.size h' h₁ → Fr h₀ env.locals h₁ m' ∧ News h₀ env.locals h₁ news' := by
    intro h₁ hk₁
    have hk₁' : ∀ b o, b ≠ s.heap.objs.size → h'.get? b = some o → h₁.get? b = some o := fun b o hb e => hk₁.extBut b o hb e
    exact ⟨⟨F'.ns.at' fun o e => hk₁' _ o hLI e, fun b o e => hk₁' b o (fun q => by rw [q, hnI] at e; cases e) (F'.keep b o e), F'.above⟩, fun p hp => ⟨hk₁' _ _ (off _ ha' p hp) (N' p hp).1, (N' p hp).2⟩⟩
  by_cases hlt : i < xt.cps.size
  · refine wpAny_pyNext_ascii_item hst' (c := xt.cps[i]) (by simp [hlt]) fun h₁ hit₁ hs₁ => ?_
    obtain ⟨F₁, N₁⟩ := next h₁ hs₁
    refine wpAny_assign_Name (wpAny_storeName_local hx F₁.ns (fun h₂ hn₂ hs₂ => ?_) hpe)
    have F₂ := F₁.set hn₂ hs₂
    have N₂ : News h₀ env.locals h₂ news' := N₁.set hs₂
    obtain ⟨o, ho, hoc⟩ := hit₁
    have ho₂ : h₂.get? s.heap.objs.size = some o := (hs₂.2 _ fun q => hLI q.symm).trans ho
    obtain ⟨c, rfl, hf', h1, h2, hp'⟩ := hJ
    have hn' : (KStt.codes xt)[i]? = some ((xt.cps[i] : Nat) : Int) := KStt.code_at (by simp [hlt])
    have hs : (KStt.codes xt).take (i + 1) = (KStt.codes xt).take i ++ [((xt.cps[i] : Nat) : Int)] := by simp [List.take_add_one, hn']
    have e : KStt.codes xt = (KStt.codes xt).take i ++ ((xt.cps[i] : Nat) : Int) :: (KStt.codes xt).drop (i + 1) := by
      have ht := List.take_append_drop (i + 1) (KStt.codes xt)
      rw [hs, List.append_assoc] at ht
      exact ht.symm
    have Nown : News h₀ env.locals h₂ (Led c ++ [(s.heap.objs.size, o)]) := by
      intro p hp
      rcases List.mem_append.mp hp with hp | hp
      · exact N₂ p hp
      · rw [List.mem_singleton.mp hp]
        exact ⟨ho₂, fun q => hLI q.symm, hnI⟩
    have hoff : OwnOff [(s.heap.objs.size, o)] ((Led c₀).map (·.1)) := by
      intro p hp b hb q
      rw [List.mem_singleton.mp hp] at q
      exact hadr b hb q.symm
    refine wpAny_with_toks (n := t0) (by show t0 ≤ tk + 1 + 1; omega) ?_
    have tt := turn c _ _ _ tk m' h₂ (tk + 1 + 1) _ htk (by omega) e hoff hf' hp' (kst_fr h1 h2 F₂) Nown
    refine wpAny_mono (wpAny_passesOwn hE tt) (fun f s₃ h₃ hle => ?_) fun _ _ e _ => e
    have fin : InvEndN h₀ env.locals (KstS Led ps Facts x stored m₀ P ((KStt.codes xt).take i ++ [((xt.cps[i] : Nat) : Int)])) [(s.heap.objs.size, o)] ((Led c₀).map (·.1)) { s with heap := h₂, toks := tk + 1 + 1 } s₃ →
        ∃ m, m < xt.cps.size + 1 - i ∧ ∃ h' tk m' news' i, s₃ = { s with heap := h', toks := tk } ∧ t0 ≤ tk ∧ h'.IsStrIter s.heap.objs.size "str_ascii_iterator" xt tx i ∧ Fr h₀ env.locals h' m' ∧ News h₀ env.locals h' news' ∧ news'.map (·.1) = (Led c₀).map (·.1) ∧
      KstS Led ps Facts x stored m₀ P ((KStt.codes xt).take i) m' news' ∧ i ≤ xt.cps.size ∧ m = xt.cps.size + 1 - i := by
      rintro ⟨h₃', tk₃, m₃, news₃, nx, rfl, F₃, N₃, hn₃, ho₃, ha₃, hm₃⟩
      refine ⟨xt.cps.size + 1 - (i + 1), by omega, h₃', tk₃, m₃, nx, i + 1, rfl, hle, ⟨o, (N₃ _ (ho₃ _ (List.mem_singleton.mpr rfl))).1, hoc⟩, F₃, fun p hp => N₃ p (hn₃ p hp), ha₃, ?_, hlt, rfl⟩
      rw [hs]; exact hm₃
    cases f with
    | ret v => exact h₃
    | brk => exact h₃
    | cont => exact fin h₃
    | next => exact fin h₃
  · have hin : i = xt.cps.size := by omega
    subst hin
    refine wpAny_pyNext_ascii_end hh hst' (by simp) fun h₁ hs₁ => wpAny_execs_nil ?_
    have hk₁ : ∀ b o, b ≠ s.heap.objs.size → h'.get? b = some o → h₁.get? b = some o := fun b o hb e => hs₁ b o hb e
    obtain ⟨c, rfl, hf', h1, h2, hp'⟩ := hJ
    have hl : xt.cps.size = (KStt.codes xt).length := (KStt.codes_length xt).symm
    rw [hl, List.take_length] at hp'
    have F₁ : Fr h₀ env.locals h₁ m' := ⟨F'.ns.at' fun o e => hk₁ _ o hLI e, fun b o e => hk₁ b o (fun q => by rw [q, hnI] at e; cases e) (F'.keep b o e), F'.above⟩
    exact done c m' h₁ tk htk hf' hp' (kst_frOut h1 h2 F₁) fun p hp => ⟨hk₁ _ _ (off _ ha' p hp) (N' p hp).1, (N' p hp).2⟩
end
end Mine
end
section
open PySem PySem.W PySem.Calls PyProof.Rows
set_option Elab.async false
set_option maxRecDepth 100000
namespace Mine
section
variable {prog : Program} {w : World} {A : Around} {E : Value → Shared → Prop} {s : Shared} {Q : Value → Shared → Prop} {h₀ : Heap} {L : Addr} {m : Str → Option Value} {news : List (Addr × Obj)}
theorem item_pick {value slice : PySem.Expr} {l : Addr} {k : Int} {u : Tok} {a b c : Int} {t0 t1 t2 : Tok} (N : News h₀ L s.heap news)
    (hm : (l, ({ cls := .type "tuple", data := .seq #[.int a t0, .int b t1, .int c t2] } : Obj)) ∈ news) (h0 : 0 ≤ k) (h3 : k < 3) (h : ∀ tt : Tok, Q (.int (pick3 a b c k) tt) s)
    (hs : subscripted slice false (.ref l) (.int k u) = operate [.ref l, .int k u] (getItem (.ref l) (.int k u)) := by with_unfolding_all rfl) :
    wpAny (model prog w) A (subscriptTail value slice (.ref l) (.int k u)) Q E s := by
  have ht : IsTup s.heap l [Value.int a t0, Value.int b t1, Value.int c t2].toArray := News.isTup N hm
  have hk : k = 0 ∨ k = 1 ∨ k = 2 := by omega
  rcases hk with rfl | rfl | rfl
  · exact item_tupleT (j := 0) ht (by decide) (by decide) rfl rfl (h t0) hs
  · exact item_tupleT (j := 1) ht (by decide) (by decide) rfl rfl (h t1) hs
  · exact item_tupleT (j := 2) ht (by decide) (by decide) rfl rfl (h t2) hs
end
theorem pick_sum {x y z k j : Int} (k0 : 0 ≤ k) (k3 : k < 3) (j0 : 0 ≤ j) (j3 : j < 3) (h : k ≠ j) : pick3 x y z k + pick3 x y z j + pick3 x y z (3 - k - j) = x + y + z := by
  have hk : k = 0 ∨ k = 1 ∨ k = 2 := by omega
  have hj : j = 0 ∨ j = 1 ∨ j = 2 := by omega
  rcases hk with rfl | rfl | rfl <;> rcases hj with rfl | rfl | rfl <;> first | exact absurd rfl h | (simp [pick3]; done) | (simp [pick3]; omega)
section
variable {s0 s1 s2 f0 f1 f2 c k j : Int}
theorem sjE (h : k = j) : c = sJ s0 s1 s2 f0 f1 f2 k c j := by unfold sJ; rw [if_pos h]
theorem sjN (h : ¬ k = j) (hm : min (f0 - pick3 s0 s1 s2 k) (min (f1 - pick3 s0 s1 s2 j) (f2 - pick3 s0 s1 s2 (3 - k - j))) < 0) : c = sJ s0 s1 s2 f0 f1 f2 k c j := by
  unfold sJ sTerm; rw [if_neg h, if_pos hm, Int.add_zero]
theorem sjT (h : ¬ k = j) (hm : ¬ min (f0 - pick3 s0 s1 s2 k) (min (f1 - pick3 s0 s1 s2 j) (f2 - pick3 s0 s1 s2 (3 - k - j))) < 0) (hs : Int.fmod (j - k) 3 = 1) :
    c + Int.fdiv 40320 (fct (f0 - pick3 s0 s1 s2 k) * fct (f1 - pick3 s0 s1 s2 j) * fct (f2 - pick3 s0 s1 s2 (3 - k - j))) = sJ s0 s1 s2 f0 f1 f2 k c j := by
  unfold sJ sTerm; rw [if_neg h, if_neg hm, if_pos (decide_eq_true hs)]
theorem sjF (h : ¬ k = j) (hm : ¬ min (f0 - pick3 s0 s1 s2 k) (min (f1 - pick3 s0 s1 s2 j) (f2 - pick3 s0 s1 s2 (3 - k - j))) < 0) (hs : ¬ Int.fmod (j - k) 3 = 1) :
    c + -Int.fdiv 40320 (fct (f0 - pick3 s0 s1 s2 k) * fct (f1 - pick3 s0 s1 s2 j) * fct (f2 - pick3 s0 s1 s2 (3 - k - j))) = sJ s0 s1 s2 f0 f1 f2 k c j := by
  unfold sJ sTerm; rw [if_neg h, if_neg hm, if_neg (by simpa using hs)]
end
end Mine
end
section
open PySem PySem.W PySem.Calls PyProof.Rows
set_option Elab.async false
set_option maxRecDepth 100000
set_option maxHeartbeats 1000000
namespace Mine
theorem o2_data (P : Params) : ∃ ep, (o2 P).data = .dict #[] ep := ⟨_, rfl⟩
theorem noneBooked {P : Params} {h₀ h : Heap} {L : Addr} {m : Str → Option Value} (KX : (K P).In h₀) (F : Fr h₀ L h m) : NoneBooked h := by
  obtain ⟨ep, e⟩ := o2_data P
  refine ⟨fun _ => none, ⟨o2 P, #[], ep, F.keep _ _ (KX _ _ ?_), e, ?_, fun _ => ?_⟩, rfl⟩
  · rfl
  · intro x hx; simp at hx
  · rfl
section
variable {M : Model} {A : Around} {E : Value → Shared → Prop} {s : Shared} {x y : Str} {u v : Tok} {Q : Value → Shared → Prop}
theorem is_any (h0 : (u == 0 || v == 0) = false) (hb : NoneBooked s.heap) (hq : ∀ b, Q (.bool b) s) : wpAny M A (compareOp .Is (.str x u) (.str y v)) Q E s := by
  show wpAny M A (do return .bool (← isSame (.str x u) (.str y v))) Q E s
  exact wpAny_bind (wpAny_isSame_str h0 hb fun b => wpAny_pure (hq b))
theorem is_other (h0 : (u == 0 || v == 0) = false) (huv : (u == v) = false) (hxy : (x == y) = false) (hq : Q (.bool false) s) : wpAny M A (compareOp .Is (.str x u) (.str y v)) Q E s := by
  show wpAny M A (do return .bool (← isSame (.str x u) (.str y v))) Q E s
  rw [isSame_str_other x y u v h0 huv hxy]
  exact wpAny_bind (wpAny_pure (wpAny_pure hq))
end
end Mine
end
section
open PySem PySem.W PySem.Calls PyProof.Rows
set_option Elab.async false
set_option maxRecDepth 100000
set_option maxHeartbeats 4000000
namespace Mine
def keyE (e : Int × Value) : Int := match e.2 with | .int k _ => k | _ => -1
def okE (e : Int × Value) : Bool := match e.2 with | .int k _ => e.1 == hashInt k | _ => false
theorem setObj_of {w : World} {prog : Program} {o : Obj} {es : List (Int × Value)} {ep : Nat} {t : SetTable} (ks : List Int) (hex : o.ExactSet) (hd : o.data = .set ⟨es⟩ ep t) (ok : es.all okE = true) (hk : es.map keyE = ks) (hf : t.fits es.length = true) :
    o.SetObjOf (intKind prog w) (fun k => ks.contains k) es.length := by
  refine ⟨hex, ⟨es⟩, ep, t, hd, ?_, ?_, rfl, hf⟩
  · intro e he
    have h := List.all_eq_true.mp ok e he
    obtain ⟨e1, e2⟩ := e
    unfold okE at h
    cases e2 <;> simp at h
    rename_i k u
    exact ⟨⟨k, intKind_is _ _ _ _, h⟩, rfl⟩
  · intro k
    subst hk
    simp only [List.contains_iff_mem, List.mem_map]
    constructor
    · rintro ⟨e, he, rfl⟩
      have h := List.all_eq_true.mp ok e he
      refine ⟨e, he, ?_⟩
      obtain ⟨e1, e2⟩ := e
      unfold okE at h
      cases e2 <;> simp at h
      exact intKind_is _ _ _ _
    · rintro ⟨e, he, h1⟩
      refine ⟨e, he, ?_⟩
      obtain ⟨t, ht⟩ := Value.isInt_shape h1
      unfold keyE
      rw [ht]
def b1L : List Int := [65024,65025,65026,65027,65028,65029,6150,65030,65031,65032,65033,6155,6156,6157,8203,8204,8205,65034,65035,65036,65037,65038,65039,173,847,8288,65279]
def c6L : List Int := [65529, 65530, 65531, 65532, 65533]
theorem b1S {w : World} {prog : Program} (P : Params) : (o22 P).SetObjOf (intKind prog w) (fun k => b1L.contains k) 27 := setObj_of (es := [_,_,_,_,_,_,_,_,_,_,_,_,_,_,_,_,_,_,_,_,_,_,_,_,_,_,_]) b1L ⟨rfl, rfl, rfl⟩ rfl (by decide +kernel) (by decide +kernel) (by rfl)
theorem c6S {w : World} {prog : Program} (P : Params) : (o34 P).SetObjOf (intKind prog w) (fun k => c6L.contains k) 5 := setObj_of (es := [_,_,_,_,_]) c6L ⟨rfl, rfl, rfl⟩ rfl (by decide +kernel) (by decide +kernel) (by rfl)
theorem c7S {w : World} {prog : Program} (P : Params) : (o46 P).SetObjOf (intKind prog w) (fun k => ((List.range 12).map fun (i : Nat) => 12272 + (i : Int)).contains k) 12 := setObj_of (es := [_,_,_,_,_,_,_,_,_,_,_,_]) _ ⟨rfl, rfl, rfl⟩ rfl (by decide +kernel) (by decide +kernel) (by rfl)
def c9L : List Int := [917505] ++ ((List.range 96).map fun (i : Nat) => 917536 + (i : Int))
def dataL (o : Obj) : List (Int × Value) := match o.data with | .set es _ _ => es.toList | _ => []
theorem c9S {w : World} {prog : Program} (P : Params) : (o64 P).SetObjOf (intKind prog w) (fun k => c9L.contains k) 97 := by
  have h := setObj_of (prog := prog) (w := w) (o := o64 P) c9L ⟨rfl, rfl, rfl⟩ rfl (by rfl) (by rfl) (by rfl)
  exact h
end Mine
end
section
open PySem PySem.W PySem.Calls PyProof.Rows
set_option Elab.async false
set_option maxRecDepth 100000
set_option maxHeartbeats 8000000
namespace Mine
local macro_rules | `(tactic| k_room) => `(tactic| ((try simp only [depth_under_make, depth_under_kw, depth_in1, depth_deeper, depth_caller]); (try simp only [recursionLimit] at *); (try dsimp only); omega))
local macro_rules | `(tactic| walk_at "call builtin:max") => `(tactic| (k_here; (with_reducible show wpAny _ _ (call _ [Value.float _ _, Value.float _ _, Value.float _ _]) _ _ _); k_dflt (refine' max3f ?k0 ?k1 ?k2 ?_; (case k0 => exact rfl); (case k1 => k_asm); (case k2 => k_asm)); intro h' tk' v' F' N'))
local macro_rules | `(tactic| walk_at "call builtin:max") => `(tactic| (k_here; (with_reducible show wpAny _ _ (call _ [Value.int _ _, Value.int _ _, Value.int _ _]) _ _ _); k_dflt (refine' max3i ?k0 ?k1 ?k2 ?_; (case k0 => exact rfl); (case k1 => k_asm); (case k2 => k_asm)); intro h' tk' v' M' hM' F' N'))
local macro_rules | `(tactic| walk_at "call builtin:min") => `(tactic| (k_here; (with_reducible show wpAny _ _ (call _ [Value.float _ _, Value.float _ _, Value.float _ _]) _ _ _); k_dflt (refine' min3f ?k0 ?k1 ?k2 ?_; (case k0 => exact rfl); (case k1 => k_asm); (case k2 => k_asm)); intro h' tk' v' F' N'))
local macro_rules | `(tactic| walk_at "call builtin:min") => `(tactic| (k_here; (with_reducible show wpAny _ _ (call _ [Value.int _ _, Value.int _ _, Value.int _ _]) _ _ _); k_dflt (refine' min3i ?k0 ?k1 ?k2 ?_; (case k0 => exact rfl); (case k1 => k_asm); (case k2 => k_asm)); intro h' tk' v' M' hM' F' N'))
section
variable {w : World} {mean : ExcName → Option Value} {mg mb : Str → Option Value} {dp un : Nat} {gd : Option (List Code)} {cn : Str} {cs : Scope} {a : Addr} {ccd : Value} {cl : List (Str × Addr)} {outer : List Env} {A₀ : Around} {base h₀ : Heap} {L : Addr} {m : Str → Option Value} {s : Shared} {Q E : Value → Shared → Prop} {news : List (Addr × Obj)}
theorem hsv_spec {X Y Z : UInt64} {t1 t2 t3 : Tok} (B : Below A₀ base outer h₀) (F : Fr h₀ L s.heap m) (KX : (K w.params).In h₀) (N : News h₀ L s.heap news) (T : Top q (looseW q loose) mean mg mb h₀) (hcs : cs.kind = .function) (hd : dp + 4 < recursionLimit) (hu : un + 20 < cLine) (hok : hsvOk X Y Z = true)
    (hret : ∀ (l : Addr) (h' : Heap) (tk' : Nat) (H f2 f3 : UInt64) (x1 x2 x3 : Tok), H = hsvH X Y Z → Fr h₀ L h' m → News h₀ L h' ((l, { cls := Value.type "tuple", data := Data.seq #[Value.float H x1, Value.float f2 x2, Value.float f3 x3] }) :: news) → (∀ p ∈ news, p.1 < l) → Q (.ref l) { s with heap := h', toks := tk' }) :
      wpAny (model PySem.Challenge.rw_to0001_01.row.prog w) (ktrTop dp un gd cn cs L a ccd cl outer) (call (.ref 81) [.float X t1, .float Y t2, .float Z t3]) Q E s := by
  revert KX; k_fill; intro KX
  refine wpAny_call ?_
  k_dflt cell_enter
  k_steps
  all_goals first
    | exact (hsvNo1 hok (by assumption) (by assumption)).elim
    | exact (hsvNo2 hok (by assumption) (by assumption)).elim
    | exact hret _ _ _ _ _ _ _ _ _ (hsv0 (by assumption)) (by k_asm) (by k_asm) (by k_asm)
    | exact hret _ _ _ _ _ _ _ _ _ (hsv1 (by assumption) (by assumption)) (by k_asm) (by k_asm) (by k_asm)
    | exact hret _ _ _ _ _ _ _ _ _ (hsv2 (by assumption) (by assumption) (by assumption)) (by k_asm) (by k_asm) (by k_asm)
    | exact hret _ _ _ _ _ _ _ _ _ (hsv3 (by assumption) (by assumption) (by assumption)) (by k_asm) (by k_asm) (by k_asm)
end
end Mine
end
section
open PySem PySem.W PySem.Calls PyProof.Rows
set_option Elab.async false
set_option maxRecDepth 100000
set_option maxHeartbeats 8000000
namespace Mine
local macro_rules | `(tactic| k_room) => `(tactic| ((try simp only [depth_under_make, depth_under_kw, depth_in1, depth_deeper, depth_caller]); (try simp only [recursionLimit] at *); (try dsimp only); omega))
local macro_rules | `(tactic| walk_at "call builtin:max") => `(tactic| (k_here; (with_reducible show wpAny _ _ (call _ [Value.float _ _, Value.float _ _, Value.float _ _]) _ _ _); k_dflt (refine' max3f ?k0 ?k1 ?k2 ?_; (case k0 => exact rfl); (case k1 => k_asm); (case k2 => k_asm)); intro h' tk' v' F' N'))
local macro_rules | `(tactic| walk_at "call builtin:max") => `(tactic| (k_here; (with_reducible show wpAny _ _ (call _ [Value.int _ _, Value.int _ _, Value.int _ _]) _ _ _); k_dflt (refine' max3i ?k0 ?k1 ?k2 ?_; (case k0 => exact rfl); (case k1 => k_asm); (case k2 => k_asm)); intro h' tk' v' M' hM' F' N'))
local macro_rules | `(tactic| walk_at "call builtin:min") => `(tactic| (k_here; (with_reducible show wpAny _ _ (call _ [Value.float _ _, Value.float _ _, Value.float _ _]) _ _ _); k_dflt (refine' min3f ?k0 ?k1 ?k2 ?_; (case k0 => exact rfl); (case k1 => k_asm); (case k2 => k_asm)); intro h' tk' v' F' N'))
local macro_rules | `(tactic| walk_at "call builtin:min") => `(tactic| (k_here; (with_reducible show wpAny _ _ (call _ [Value.int _ _, Value.int _ _, Value.int _ _]) _ _ _); k_dflt (refine' min3i ?k0 ?k1 ?k2 ?_; (case k0 => exact rfl); (case k1 => k_asm); (case k2 => k_asm)); intro h' tk' v' M' hM' F' N'))
local macro_rules | `(tactic| walk_at "call ref") => `(tactic| (k_here; (with_reducible show wpAny _ _ (call (Value.ref _) [Value.float _ _, Value.float _ _, Value.float _ _]) _ _ _); k_dflt (refine' hsv_spec ?B ?F ?X ?N ?T ?c ?d ?u ?o ?r; (case B => k_asm); (case F => k_asm); (case X => k_asm); (case N => k_asm); (case T => k_asm); (case c => first | exact rfl | assumption); (case d => (try simp only [depth_deeper]); omega); (case u => (try simp only [units_deeper]); omega); (case o => exact chk_hsv (by assumption))); intro l' h' tk' H' f2' f3' x1' x2' x3' hH' F' N' l1))
section
variable {w : World} {mean : ExcName → Option Value} {mg mb : Str → Option Value} {dp un : Nat} {gd : Option (List Code)} {cn : Str} {cs : Scope} {a : Addr} {ccd : Value} {cl : List (Str × Addr)} {outer : List Env} {A₀ : Around} {base h₀ : Heap} {L : Addr} {m : Str → Option Value} {s : Shared} {Q E : Value → Shared → Prop} {news : List (Addr × Obj)}

theorem within_spec {r g b : Int} {t1 t2 t3 : Tok} (B : Below A₀ base outer h₀) (F : Fr h₀ L s.heap m) (KX : (K w.params).In h₀) (N : News h₀ L s.heap news) (T : Top q (looseW q loose) mean mg mb h₀) (hcs : cs.kind = .function) (hd : dp + 8 < recursionLimit) (hu : un + 30 < cLine)
    (hr0 : 2 ≤ r) (hr1 : r ≤ 13) (hg0 : 1 ≤ g) (hg1 : g ≤ 8) (hb0 : 0 ≤ b) (hb1 : b ≤ 5)
    (hret : ∀ (h' : Heap) (tk' : Nat), Fr h₀ L h' m → News h₀ L h' news → Q (.bool (decide (b < g) && decide (g < r))) { s with heap := h', toks := tk' }) :
      wpAny (model PySem.Challenge.rw_to0001_01.row.prog w) (ktrTop dp un gd cn cs L a ccd cl outer) (call (.ref 156) [.int r t1, .int g t2, .int b t3]) Q E s := by
  have hc := chk_of hr0 hr1 hg0 hg1 hb0 hb1
  revert KX; k_fill; intro KX
  refine wpAny_call ?_
  k_dflt cell_enter
  k_steps
  all_goals ((rename _ = hsvH _ _ _ => eH); (rename _ = max _ (max _ _) => eM); (rename _ = min _ (min _ _) => eN); subst eH eM eN)
  all_goals first
    | exact (endN hc (by assumption)).elim
    | exact (endI hc (by assumption)).elim
    | skip
  · have ha : (0:Int) < Flt.toInt Float64.nearestOf (partV r g b) := by (unfold partV fl; assumption)
    have e := endA hc ha
    unfold partV fl at e
    rw [← e] at hret
    exact hret _ _ (by k_asm) (cb_drop (by k_asm) fun p hp => List.Mem.tail _ hp)
  · have ha : ¬ (0:Int) < Flt.toInt Float64.nearestOf (partV r g b) := by (unfold partV fl; assumption)
    have e := endB hc ha
    unfold partV fl at e
    rw [← e] at hret
    exact hret _ _ (by k_asm) (cb_drop (by k_asm) fun p hp => List.Mem.tail _ hp)
end
end Mine
end
section
open PySem PySem.W PySem.Calls PyProof.Rows
set_option Elab.async false
set_option maxRecDepth 100000
set_option maxHeartbeats 4000000
namespace Mine
local macro_rules | `(tactic| k_room) => `(tactic| ((try simp only [depth_under_make, depth_under_kw, depth_in1, depth_deeper, depth_caller]); (try simp only [recursionLimit] at *); (try dsimp only); omega))
local macro_rules | `(tactic| walk_at "call builtin:max") => `(tactic| (k_here; (with_reducible show wpAny _ _ (call _ [Value.float _ _, Value.float _ _, Value.float _ _]) _ _ _); k_dflt (refine' max3f ?k0 ?k1 ?k2 ?_; (case k0 => exact rfl); (case k1 => k_asm); (case k2 => k_asm)); intro h' tk' v' F' N'))
local macro_rules | `(tactic| walk_at "call builtin:max") => `(tactic| (k_here; (with_reducible show wpAny _ _ (call _ [Value.int _ _, Value.int _ _, Value.int _ _]) _ _ _); k_dflt (refine' max3i ?k0 ?k1 ?k2 ?_; (case k0 => exact rfl); (case k1 => k_asm); (case k2 => k_asm)); intro h' tk' v' M' hM' F' N'))
local macro_rules | `(tactic| walk_at "call builtin:min") => `(tactic| (k_here; (with_reducible show wpAny _ _ (call _ [Value.float _ _, Value.float _ _, Value.float _ _]) _ _ _); k_dflt (refine' min3f ?k0 ?k1 ?k2 ?_; (case k0 => exact rfl); (case k1 => k_asm); (case k2 => k_asm)); intro h' tk' v' F' N'))
local macro_rules | `(tactic| walk_at "call builtin:min") => `(tactic| (k_here; (with_reducible show wpAny _ _ (call _ [Value.int _ _, Value.int _ _, Value.int _ _]) _ _ _); k_dflt (refine' min3i ?k0 ?k1 ?k2 ?_; (case k0 => exact rfl); (case k1 => k_asm); (case k2 => k_asm)); intro h' tk' v' M' hM' F' N'))
local macro_rules | `(tactic| walk_at "call ref") => `(tactic| (k_here; (with_reducible show wpAny _ _ (call (Value.ref _) [Value.float _ _, Value.float _ _, Value.float _ _]) _ _ _); k_dflt (refine' hsv_spec ?B ?F ?X ?N ?T ?c ?d ?u ?o ?r; (case B => k_asm); (case F => k_asm); (case X => k_asm); (case N => k_asm); (case T => k_asm); (case c => first | exact rfl | assumption); (case d => (try simp only [depth_deeper]); omega); (case u => (try simp only [units_deeper]); omega); (case o => exact chk_hsv (by assumption))); intro l' h' tk' H' f2' f3' x1' x2' x3' hH' F' N' l1))
local macro_rules | `(tactic| walk_at "call ref") => `(tactic| (k_here; (with_reducible show wpAny _ _ (call (Value.ref 156) [Value.int _ _, Value.int _ _, Value.int _ _]) _ _ _); k_dflt (refine' within_spec ?B ?F ?X ?N ?T ?c ?d ?u ?a1 ?a2 ?a3 ?a4 ?a5 ?a6 ?r; (case B => k_asm); (case F => k_asm); (case X => k_asm); (case N => k_asm); (case T => k_asm); (case c => first | exact rfl | assumption); (case d => ((try simp only [depth_deeper]); omega)); (case u => ((try simp only [units_deeper]); omega)); (case a1 => omega); (case a2 => omega); (case a3 => omega); (case a4 => omega); (case a5 => omega); (case a6 => omega)); intro h' tk' F' N'))
local macro_rules | `(tactic| walk_at "subscriptTail") => `(tactic| (k_here; (with_reducible show wpAny _ _ (subscriptTail _ _ (Value.ref _) (Value.int _ _)) _ _ _); k_dflt (refine' item_news ?N ?m ?a ?b ?x ?_ ?s; (case N => k_asm); (case m => k_mem); (case a => decide); (case b => decide); (case x => rfl); (case s => with_unfolding_all rfl); k_whole)))
local macro_rules | `(tactic| walk_at "subscriptTail Name Constant ref int") => `(tactic| (k_here; (with_reducible show wpAny _ _ (subscriptTail _ _ (Value.ref _) (Value.int _ _)) _ _ _); k_dflt (refine' item_news ?N ?m ?a ?b ?x ?_ ?s; (case N => k_asm); (case m => k_mem); (case a => decide); (case b => decide); (case x => rfl); (case s => with_unfolding_all rfl); k_whole)))
local macro_rules | `(tactic| walk_at "compareOp Eq ref ref") => `(tactic| (k_here; (with_reducible show wpAny _ _ (compareOp CmpOp.Eq (Value.ref _) (Value.ref _)) _ _ _); k_dflt (refine' eq_tup3 ?N ?a ?b ?u ?_; (case N => k_asm); (case a => k_mem); (case b => k_mem); (case u => ((try simp only [units_deeper]); omega)); k_whole)))
section
variable {w : World} {mean : ExcName → Option Value} {mg mb : Str → Option Value} {dp un : Nat} {gd : Option (List Code)} {cn : Str} {cs : Scope} {a : Addr} {ccd : Value} {cl : List (Str × Addr)} {outer : List Env} {A₀ : Around} {base h₀ : Heap} {L : Addr} {m : Str → Option Value} {s : Shared} {Q E : Value → Shared → Prop} {news : List (Addr × Obj)}

theorem ways_spec {lg lf ls : Addr} {ng : Nat} {of : Obj} {s0 s1 s2 g0 g1 g2 : Int} {tS0 tS1 tS2 tG0 tG1 tG2 : Tok} (B : Below A₀ base outer h₀) (F : Fr h₀ L s.heap m) (KX : (K w.params).In h₀)
    (N : News h₀ L s.heap [(lg, listOf #[.int g0 tG0, .int g1 tG1, .int g2 tG2] ng), (lf, of), (ls, { cls := .type "tuple", data := .seq #[.int s0 tS0, .int s1 tS1, .int s2 tS2] })])
    (T : Top q (looseW q loose) mean mg mb h₀) (hcs : cs.kind = .function) (hd : dp + 12 < recursionLimit) (hu : un + 120 < cLine)
    (o1 : ls < lf) (o2 : lf < lg) (a1 : 2 ≤ s0) (a2 : 1 ≤ s1) (a3 : 0 ≤ s2) (b1 : s0 ≤ g0) (b2 : s1 ≤ g1) (b3 : s2 ≤ g2) (c1 : g0 ≤ 13) (c2 : g1 ≤ 8) (c3 : g2 ≤ 5)
    (hret : ∀ (t : Tok) (h' : Heap) (tk' : Nat), Fr h₀ L h' m → News h₀ L h' [(lg, listOf #[.int g0 tG0, .int g1 tG1, .int g2 tG2] ng), (lf, of), (ls, { cls := .type "tuple", data := .seq #[.int s0 tS0, .int s1 tS1, .int s2 tS2] })] →
      Q (.int (kdfLook (ways s0 s1 s2 (g0 + 1 - s0).toNat (g1 + 1 - s1).toNat (g2 + 1 - s2).toNat) (256 * g0 + 16 * g1 + g2) 0) t) { s with heap := h', toks := tk' }) :
      wpAny (model PySem.Challenge.rw_to0001_01.row.prog w) (ktrTop dp un gd cn cs L a ccd cl outer) (call (.ref 163) [.ref ls, .ref lg]) Q E s := by
  revert KX; k_fill; intro KX
  refine wpAny_call ?_
  k_dflt cell_enter
  (rename Fr _ _ _ _ => F1)
  have F2 : Fr _ _ _ (fun y => List.lookup y [(Str.ofString "goal", Value.ref lg), (Str.ofString "start", Value.ref ls)]) := F1
  clear F1
  repeat' ((fail_if_success (with_reducible show wpAny _ _ (pyIter _) _ _ _)); (fail_if_success (with_reducible show InvEndN _ _ _ _ _ _ _)); (first | (k_unfold; (try dsimp only)) | (k_end; wrow_close) | walk1 | (dsimp only; walk1) | (leave1; walk_say "STEP leave1"; try dsimp only) | fail "no step"))
  (rename Fr _ _ _ _ => lF); (rename News _ _ _ _ => lN); (rename IsRange _ _ _ _ _ _ _ _ => rgX); (rename Obj.IsDictOf (intKind _ _) _ _ => hD); (rename PyProof.V.FlatPairs PyData.int _ _ => hP)
  rename_i d' h1 o' hlo hs1 fs1 l1 h2 F3 N3 h3 tk3 t3 u3 w3 hk3
  refine kst_range (σ := Obj × List (Int × Value) × List (Int × Int)) (fun c => (d', c.1) :: (lg, W.listOf #[Value.int g0 tG0, Value.int g1 tG1, Value.int g2 tG2] ng) :: (lf, of) :: (ls, { cls := .type "tuple", data := .seq #[.int s0 tS0, .int s1 tS1, .int s2 tS2] }) ::  []) (fun _ => []) (fun c => c.1.IsDictOf (intKind _ w) c.2.1 ∧ PyProof.V.FlatPairs PyData.int c.2.1 (kdfD c.2.2)) [Str.ofString "g", Str.ofString "b", Str.ofString "key"] (fun pre c => c.2.2 = pre.foldl (wR s0 s1 s2 (g1 + 1 - s1).toNat (g2 + 1 - s2).toNat) [] ∧ c.2.2.length ≤ 48 * pre.length) (o', [], []) rfl rgX (small_one (by omega) (by omega) (by omega) (by omega)) (rangeSize_nat _ _) lF lN ⟨hD, hP⟩ (fun p hp => nomatch hp) ⟨rfl, Nat.zero_le _⟩ ?turn ?done
  case done =>
    clear lF lN hD hP rgX
    rintro ⟨o1, kvs1, c1⟩ u1 h1 tk1 ⟨hD, hP⟩ ⟨hc, hl⟩ lF lN
    dsimp only [kstB] at hD hP hc hl lF lN
    rw [show (rangeKs s0 (g0 + 1 - s0).toNat).foldl (wR s0 s1 s2 (g1 + 1 - s1).toNat (g2 + 1 - s2).toNat) [] = ways s0 s1 s2 (g0 + 1 - s0).toNat (g1 + 1 - s1).toNat (g2 + 1 - s2).toNat from rfl] at hc
    subst hc
    have hhas := ways_has b1 b2 b3
    repeat' ((fail_if_success (with_reducible show wpAny _ _ (pyIter _) _ _ _)); (fail_if_success (with_reducible show InvEndN _ _ _ _ _ _ _)); (first | (k_unfold; (try dsimp only)) | (k_end; wrow_close) | walk1 | (dsimp only; walk1) | (leave1; walk_say "STEP leave1"; try dsimp only) | fail "no step"))
    (rename Fr h₀ _ _ _ => eF); (rename News h₀ _ _ _ => eN)
    exact hret _ _ _ eF (cb_drop eN fun p hp => List.Mem.tail _ hp)
  case turn =>
    clear lF lN hD hP hs1 fs1 F3 N3 hk3 rgX
    rintro ⟨o1, kvs1, c1⟩ pre k t u h tk own hk hlt hoff ⟨hD, hP⟩ ⟨hc, hl⟩ lF lN
    have kMk := kstMark
    dsimp only [kstB] at hD hP hc hl lF lN
    simp only [List.cons_append, List.nil_append] at lN
    dsimp only [List.map_cons, List.map_nil] at hoff
    (try dsimp only)
    (try k_fold)
    repeat' ((fail_if_success (with_reducible show wpAny _ _ (pyIter _) _ _ _)); (fail_if_success (with_reducible show InvEndN _ _ _ _ _ _ _)); (first | (k_unfold; (try dsimp only)) | (k_end; wrow_close) | walk1 | (dsimp only; walk1) | (leave1; walk_say "STEP leave1"; try dsimp only) | fail "no step"))
    (rename Fr _ _ _ _ => lF); (rename News _ _ _ _ => lN); (rename IsRange _ _ _ _ _ _ _ _ => rgX)
    refine kst_range (σ := Obj × List (Int × Value) × List (Int × Int)) (fun c => (d', c.1) :: (lg, W.listOf #[Value.int g0 tG0, Value.int g1 tG1, Value.int g2 tG2] ng) :: (lf, of) :: (ls, { cls := .type "tuple", data := .seq #[.int s0 tS0, .int s1 tS1, .int s2 tS2] }) ::  own) (fun _ => []) (fun c => c.1.IsDictOf (intKind _ w) c.2.1 ∧ PyProof.V.FlatPairs PyData.int c.2.1 (kdfD c.2.2)) [Str.ofString "b", Str.ofString "key"] (fun pre c => c.2.2 = pre.foldl (wG s0 s1 s2 (g2 + 1 - s2).toNat k) c1 ∧ c.2.2.length ≤ c1.length + 6 * pre.length) (o1, kvs1, c1) rfl rgX (small_one (by omega) (by omega) (by omega) (by omega)) (rangeSize_nat _ _) lF lN ⟨hD, hP⟩ (fun p hp => nomatch hp) ⟨rfl, Nat.le_refl _⟩ ?turn ?done
    case done =>
      clear lF lN hD hP rgX
      rintro ⟨o2, kvs2, c2⟩ u2 h2 tk2 ⟨hD, hP⟩ ⟨hc2, hl2⟩ lF lN
      dsimp only [kstB] at hD hP hc2 hl2 lF lN
      repeat' ((fail_if_success (with_reducible show wpAny _ _ (pyIter _) _ _ _)); (fail_if_success (with_reducible show InvEndN _ _ _ _ _ _ _)); (first | (k_unfold; (try dsimp only)) | (k_end; wrow_close) | walk1 | (dsimp only; walk1) | (leave1; walk_say "STEP leave1"; try dsimp only) | fail "no step"))
      refine kst_end (o2, kvs2, c2) lF lN ?hn ?ho rfl ⟨hD, hP⟩ (fun p hp => nomatch hp) ?hr ⟨?h1, ?h2⟩
      case hn => (intro p hp; simp only [List.mem_cons, List.not_mem_nil, or_false] at hp ⊢; rcases hp with h | h | h | h <;> simp [h])
      case ho => exact fun p hp => .tail _ (.tail _ (.tail _ (.tail _ hp)))
      case hr => (intro z e1 _ e3; simp at e3; simp [e1, e3])
      case h1 => (rw [foldl_snoc, ← hc]; exact hc2)
      case h2 => (dsimp only; rw [rangeKs_length] at hl2; rw [List.length_append, List.length_singleton]; omega)
    case turn =>
      clear lF lN hD hP rgX
      rintro ⟨o2, kvs2, c2⟩ pre2 k2 t2 u2 h2 tk2 own2 hk2 hlt2 hoff2 ⟨hD, hP⟩ ⟨hc2, hl2⟩ lF lN
      have kMk := kstMark
      dsimp only [kstB] at hD hP hc2 hl2 lF lN
      simp only [List.cons_append, List.nil_append] at lN
      dsimp only [List.map_cons, List.map_nil] at hoff2
      (try dsimp only)
      (try k_fold)
      repeat' ((fail_if_success (with_reducible show wpAny _ _ (pyIter _) _ _ _)); (fail_if_success (with_reducible show InvEndN _ _ _ _ _ _ _)); (first | (k_unfold; (try dsimp only)) | (k_end; wrow_close) | walk1 | (dsimp only; walk1) | (leave1; walk_say "STEP leave1"; try dsimp only) | fail "no step"))
      (rename Fr _ _ _ _ => lF); (rename News _ _ _ _ => lN); (rename IsRange _ _ _ _ _ _ _ _ => rgX)
      refine kst_range (σ := Obj × List (Int × Value) × List (Int × Int)) (fun c => (d', c.1) :: (lg, W.listOf #[Value.int g0 tG0, Value.int g1 tG1, Value.int g2 tG2] ng) :: (lf, of) :: (ls, { cls := .type "tuple", data := .seq #[.int s0 tS0, .int s1 tS1, .int s2 tS2] }) ::  (own ++ own2)) (fun _ => []) (fun c => c.1.IsDictOf (intKind _ w) c.2.1 ∧ PyProof.V.FlatPairs PyData.int c.2.1 (kdfD c.2.2)) [Str.ofString "key"] (fun pre c => c.2.2 = pre.foldl (wB s0 s1 s2 k k2) c2 ∧ c.2.2.length ≤ c2.length + pre.length) (o2, kvs2, c2) rfl rgX (small_one (by omega) (by omega) (by omega) (by omega)) (rangeSize_nat _ _) lF lN ⟨hD, hP⟩ (fun p hp => nomatch hp) ⟨rfl, Nat.le_refl _⟩ ?turn ?done
      case done =>
        clear lF lN hD hP rgX
        rintro ⟨o3, kvs3, c3⟩ u3 h3 tk3 ⟨hD, hP⟩ ⟨hc3, hl3⟩ lF lN
        dsimp only [kstB] at hD hP hc3 hl3 lF lN
        repeat' ((fail_if_success (with_reducible show wpAny _ _ (pyIter _) _ _ _)); (fail_if_success (with_reducible show InvEndN _ _ _ _ _ _ _)); (first | (k_unfold; (try dsimp only)) | (k_end; wrow_close) | walk1 | (dsimp only; walk1) | (leave1; walk_say "STEP leave1"; try dsimp only) | fail "no step"))
        refine kst_end (o3, kvs3, c3) lF lN ?hn ?ho rfl ⟨hD, hP⟩ (fun p hp => nomatch hp) ?hr ⟨?h1, ?h2⟩
        case hn => (intro p hp; simp only [List.mem_cons, List.mem_append] at hp ⊢; rcases hp with h | h | h | h | h <;> simp [h])
        case ho => exact fun p hp => .tail _ (.tail _ (.tail _ (.tail _ (List.mem_append_right _ hp))))
        case hr => (intro z e1 _ e3; simp at e3; simp [e1, e3])
        case h1 => (rw [foldl_snoc, ← hc2]; exact hc3)
        case h2 => (dsimp only; rw [rangeKs_length] at hl3; rw [List.length_append, List.length_singleton]; omega)
      case turn =>
        clear lF lN hD hP rgX
        rintro ⟨o3, kvs3, c3⟩ pre3 k3 t3 u3 h3 tk3 own3 hk3 hlt3 hoff3 ⟨hD, hP⟩ ⟨hc3, hl3⟩ lF lN
        have kMk := kstMark
        dsimp only [kstB] at hD hP hc3 hl3 lF lN
        simp only [List.cons_append, List.nil_append] at lN
        dsimp only [List.map_cons, List.map_nil] at hoff3
        (try dsimp only)
        (try k_fold)
        repeat' ((fail_if_success (with_reducible show wpAny _ _ (pyIter _) _ _ _)); (fail_if_success (with_reducible show InvEndN _ _ _ _ _ _ _)); (first | (k_unfold; (try dsimp only)) | (k_end; wrow_close) | walk1 | (dsimp only; walk1) | (leave1; walk_say "STEP leave1"; try dsimp only) | fail "no step"))
        all_goals ((rename Obj.IsDictOf (intKind _ _) _ _ => eD); (rename PyProof.V.FlatPairs PyData.int _ _ => eP); (rename News _ _ _ _ => eN); (rename Fr _ _ _ _ => eF))
        all_goals refine kst_end (_, _, _) eF eN ?_ ?_ (by rfl) ⟨eD, eP⟩ (fun p hp => nomatch hp) ?_ ⟨?_, ?_⟩
        all_goals first
          | ((fail_if_success (with_reducible show _ = _)); exact Nat.le_trans (kdfPut_len _ _ _) (by rw [List.length_append, List.length_singleton]; omega))
          | (rw [foldl_snoc, ← hc3]; first | exact wB_one (by assumption) (by assumption) | exact wB_sum (by assumption) (by assumption) | exact wB_nil (by assumption))
          | (intro z e1 _ e3; simp at e3; simp [e1, e3]; done)
          | (intro p hp; simp only [List.mem_cons, List.mem_append] at hp ⊢; rcases hp with h | h | h | h | h | h <;> simp [h]; done)
          | (intro p hp; simp only [List.mem_cons, List.mem_append]; simp [hp]; done)
end
end Mine
end
section
open PySem PySem.W PySem.Calls PyProof.Rows
set_option Elab.async false
set_option maxRecDepth 100000
set_option maxHeartbeats 8000000
namespace Mine
local macro_rules | `(tactic| k_room) => `(tactic| ((try simp only [depth_under_make, depth_under_kw, depth_in1, depth_deeper, depth_caller]); (try simp only [recursionLimit] at *); (try dsimp only); omega))
local macro_rules | `(tactic| walk_at "call builtin:max") => `(tactic| (k_here; (with_reducible show wpAny _ _ (call _ [Value.float _ _, Value.float _ _, Value.float _ _]) _ _ _); k_dflt (refine' max3f ?k0 ?k1 ?k2 ?_; (case k0 => exact rfl); (case k1 => k_asm); (case k2 => k_asm)); intro h' tk' v' F' N'))
local macro_rules | `(tactic| walk_at "call builtin:max") => `(tactic| (k_here; (with_reducible show wpAny _ _ (call _ [Value.int _ _, Value.int _ _, Value.int _ _]) _ _ _); k_dflt (refine' max3i ?k0 ?k1 ?k2 ?_; (case k0 => exact rfl); (case k1 => k_asm); (case k2 => k_asm)); intro h' tk' v' M' hM' F' N'))
local macro_rules | `(tactic| walk_at "call builtin:min") => `(tactic| (k_here; (with_reducible show wpAny _ _ (call _ [Value.float _ _, Value.float _ _, Value.float _ _]) _ _ _); k_dflt (refine' min3f ?k0 ?k1 ?k2 ?_; (case k0 => exact rfl); (case k1 => k_asm); (case k2 => k_asm)); intro h' tk' v' F' N'))
local macro_rules | `(tactic| walk_at "call builtin:min") => `(tactic| (k_here; (with_reducible show wpAny _ _ (call _ [Value.int _ _, Value.int _ _, Value.int _ _]) _ _ _); k_dflt (refine' min3i ?k0 ?k1 ?k2 ?_; (case k0 => exact rfl); (case k1 => k_asm); (case k2 => k_asm)); intro h' tk' v' M' hM' F' N'))
local macro_rules | `(tactic| walk_at "binaryOp Mult int int") => `(tactic| (k_here; (with_reducible show wpAny _ _ (binaryOp _ (Value.int _ _) (Value.int (b2i _ - b2i _) _)) _ _ _); k_dflt (refine' mul_b2i ?_)))
section
variable {w : World} {mean : ExcName → Option Value} {mg mb : Str → Option Value} {dp un : Nat} {gd : Option (List Code)} {cn : Str} {cs : Scope} {a : Addr} {ccd : Value} {cl : List (Str × Addr)} {outer : List Env} {A₀ : Around} {base h₀ : Heap} {L : Addr} {m : Str → Option Value} {s : Shared} {Q E : Value → Shared → Prop} {news : List (Addr × Obj)}

theorem rank_spec {r g b : Int} {t1 t2 t3 : Tok} (B : Below A₀ base outer h₀) (F : Fr h₀ L s.heap m) (KX : (K w.params).In h₀) (N : News h₀ L s.heap news) (T : Top q (looseW q loose) mean mg mb h₀) (hcs : cs.kind = .function) (hd : dp + 8 < recursionLimit) (hu : un + 30 < cLine)
    (hret : ∀ (t : Tok) (h' : Heap) (tk' : Nat), Fr h₀ L h' m → News h₀ L h' news → Q (.int (rank r g b) t) { s with heap := h', toks := tk' }) :
      wpAny (model PySem.Challenge.rw_to0001_01.row.prog w) (ktrTop dp un gd cn cs L a ccd cl outer) (call (.ref 177) [.int r t1, .int g t2, .int b t3]) Q E s := by
  revert KX; k_fill; intro KX
  refine wpAny_call ?_
  k_dflt cell_enter
  (rename Fr _ _ _ _ => F1)
  have F2 : Fr _ _ _ (fun y => List.lookup y [(Str.ofString "b", Value.int b t3), (Str.ofString "g", Value.int g t2), (Str.ofString "r", Value.int r t1)]) := F1
  clear F1
  k_steps
  exact hret _ _ _ (by k_asm) (by k_asm)
end
end Mine
end
section
open PySem PySem.W PySem.Calls PyProof.Rows
set_option Elab.async false
set_option maxRecDepth 100000
set_option maxHeartbeats 8000000
namespace Mine
local macro_rules | `(tactic| k_room) => `(tactic| ((try simp only [depth_under_make, depth_under_kw, depth_in1, depth_deeper, depth_caller]); (try simp only [recursionLimit] at *); (try dsimp only); omega))
local macro_rules | `(tactic| walk_at "call builtin:max") => `(tactic| (k_here; (with_reducible show wpAny _ _ (call _ [Value.float _ _, Value.float _ _, Value.float _ _]) _ _ _); k_dflt (refine' max3f ?k0 ?k1 ?k2 ?_; (case k0 => exact rfl); (case k1 => k_asm); (case k2 => k_asm)); intro h' tk' v' F' N'))
local macro_rules | `(tactic| walk_at "call builtin:max") => `(tactic| (k_here; (with_reducible show wpAny _ _ (call _ [Value.int _ _, Value.int _ _, Value.int _ _]) _ _ _); k_dflt (refine' max3i ?k0 ?k1 ?k2 ?_; (case k0 => exact rfl); (case k1 => k_asm); (case k2 => k_asm)); intro h' tk' v' M' hM' F' N'))
local macro_rules | `(tactic| walk_at "call builtin:min") => `(tactic| (k_here; (with_reducible show wpAny _ _ (call _ [Value.float _ _, Value.float _ _, Value.float _ _]) _ _ _); k_dflt (refine' min3f ?k0 ?k1 ?k2 ?_; (case k0 => exact rfl); (case k1 => k_asm); (case k2 => k_asm)); intro h' tk' v' F' N'))
local macro_rules | `(tactic| walk_at "call builtin:min") => `(tactic| (k_here; (with_reducible show wpAny _ _ (call _ [Value.int _ _, Value.int _ _, Value.int _ _]) _ _ _); k_dflt (refine' min3i ?k0 ?k1 ?k2 ?_; (case k0 => exact rfl); (case k1 => k_asm); (case k2 => k_asm)); intro h' tk' v' M' hM' F' N'))
section
variable {w : World} {mean : ExcName → Option Value} {mg mb : Str → Option Value} {dp un : Nat} {gd : Option (List Code)} {cn : Str} {cs : Scope} {a : Addr} {ccd : Value} {cl : List (Str × Addr)} {outer : List Env} {A₀ : Around} {base h₀ : Heap} {L : Addr} {m : Str → Option Value} {s : Shared} {Q E : Value → Shared → Prop} {news : List (Addr × Obj)}

def cnt (c : Nat) (l : List Int) : Int := l.foldl (fun a x => if x = (c : Int) then a + 1 else a) 0
theorem count_spec {xt y : Str} {c : Nat} {t1 t2 : Tok} (hy : y = ⟨#[c]⟩) (hz2 : t2 ≠ 0) (ht2 : t2 < s.toks) (ha : xt.cps.all (· < 128) = true) (B : Below A₀ base outer h₀) (F : Fr h₀ L s.heap m) (KX : (K w.params).In h₀) (N : News h₀ L s.heap news) (T : Top q (looseW q loose) mean mg mb h₀) (hcs : cs.kind = .function) (hd : dp + 8 < recursionLimit) (hu : un + 120 < cLine)
    (hret : ∀ (t : Tok) (h' : Heap) (tk' : Nat), Fr h₀ L h' m → News h₀ L h' news → Q (.int (cnt c (KStt.codes xt)) t) { s with heap := h', toks := tk' }) :
      wpAny (model PySem.Challenge.rw_to0001_01.row.prog w) (ktrTop dp un gd cn cs L a ccd cl outer) (call (.ref 116) [.str xt t1, .str y t2]) Q E s := by
  revert KX; k_fill; intro KX
  refine wpAny_call ?_
  k_dflt cell_enter
  (rename Fr _ _ _ _ => F1)
  have F2 : Fr _ _ _ (fun z => List.lookup z [(Str.ofString "b", Value.str y t2), (Str.ofString "a", Value.str xt t1)]) := F1
  clear F1
  repeat' ((fail_if_success (with_reducible show wpAny _ _ (exec (Stmt.For _ _ _ _ _) _) _ _ _)); (fail_if_success (with_reducible show wpAny _ _ (pyIter _) _ _ _)); (fail_if_success (with_reducible show InvEndN _ _ _ _ _ _ _)); (first | (k_unfold; (try dsimp only)) | (k_end; wrow_close) | walk1 | (dsimp only; walk1) | (leave1; walk_say "STEP leave1"; try dsimp only) | fail "no step"))
  (rename Fr _ _ _ _ => lF')
  with_unfolding_all refine' For_C lF' ?_
  repeat' ((fail_if_success (with_reducible show wpAny _ _ (pyIter _) _ _ _)); (fail_if_success (with_reducible show InvEndN _ _ _ _ _ _ _)); (first | (k_unfold; (try dsimp only)) | (k_end; wrow_close) | walk1 | (dsimp only; walk1) | (leave1; walk_say "STEP leave1"; try dsimp only) | fail "no step"))
  (rename Fr _ _ _ _ => lF); (rename News _ _ _ _ => lN)
  refine kst_textT (σ := Int × Tok) (fun _ => news) (fun c => [(Str.ofString "count", Value.int c.1 c.2)]) (fun _ => True) [] (fun pre r => r.1 = cnt c pre) (0, _) s.toks (by (try dsimp only); simp only [Nat.add_assoc]; exact Nat.le_add_right _ _) ha rfl rfl (by passes_own) rfl lF lN trivial (fun p hp => by rcases List.mem_cons.mp hp with rfl | hp; rfl; cases hp) rfl ?turn ?done
  case done =>
    clear lF lN
    rintro ⟨c1, tc1⟩ u1 h1 tk1 htk1 - hc1 lF lN
    dsimp only [kstB] at hc1 lF lN
    subst hc1
    repeat' ((fail_if_success (with_reducible show wpAny _ _ (pyIter _) _ _ _)); (fail_if_success (with_reducible show InvEndN _ _ _ _ _ _ _)); (first | (k_unfold; (try dsimp only)) | (k_end; wrow_close) | walk1 | (dsimp only; walk1) | (leave1; walk_say "STEP leave1"; try dsimp only) | fail "no step"))
    exact hret _ _ _ (by k_asm) (by k_asm)
  case turn =>
    clear lF lN
    rintro ⟨c1, tc1⟩ pre post n tn u1 h1 tk1 own htn htk1 hcod hoff - hc1 lF lN
    have kMk := kstMark
    have hz : (tn == 0 || t2 == 0) = false := by
      have h1 : tn ≠ 0 := by intro e; rw [e] at htn; exact hz2 (Nat.le_zero.mp (Nat.le_trans (Nat.le_of_lt ht2) htn))
      simp [h1, hz2]
    have hu2 : (tn == t2) = false := by
      have h1 : tn ≠ t2 := by intro e; rw [e] at htn; exact absurd htn (Nat.not_le_of_lt ht2)
      simp [h1]
    have hnb := noneBooked (P := w.params) (by assumption) lF
    dsimp only [kstB] at hc1 lF lN
    subst hc1
    subst hy
    (try dsimp only)
    (try k_fold)
    repeat' ((fail_if_success (with_reducible show wpAny _ _ (pyIter _) _ _ _)); (fail_if_success (with_reducible show wpAny _ _ (compareOp CmpOp.Is _ _) _ _ _)); (fail_if_success (with_reducible show InvEndN _ _ _ _ _ _ _)); (first | (k_unfold; (try dsimp only)) | (k_end; wrow_close) | walk1 | (dsimp only; walk1) | (leave1; walk_say "STEP leave1"; try dsimp only) | fail "no step"))
    by_cases hnc : n = c
    · subst hnc
      refine is_any hz hnb ?_
      have hcn : cnt n (pre ++ [(n : Int)]) = cnt n pre + 1 := by simp [cnt, List.foldl_append]
      intro bb
      cases bb
      · repeat' ((fail_if_success (with_reducible show wpAny _ _ (pyIter _) _ _ _)); (fail_if_success (with_reducible show wpAny _ _ (compareOp CmpOp.Is _ _) _ _ _)); (fail_if_success (with_reducible show InvEndN _ _ _ _ _ _ _)); (first | (k_unfold; (try dsimp only)) | (k_end; wrow_close) | walk1 | (dsimp only; walk1) | (leave1; walk_say "STEP leave1"; try dsimp only) | fail "no step"))
        all_goals first
          | ((rename ((_ : Str) == _) = _ => hEq); exfalso; simp [hcn] at hEq; done)
          | ((rename News _ _ _ _ => eN); (rename Fr _ _ _ _ => eF); refine kst_end (_, _) eF eN (fun p hp => List.mem_append_left _ hp) (fun p hp => List.mem_append_right _ hp) (by rfl) trivial (fun p hp => by rcases List.mem_cons.mp hp with rfl | hp; rfl; cases hp) ?_ ?_; all_goals first | exact hcn.symm | (intro z e1 e2 e3; have e4 : z ≠ Str.ofString "count" := e2 (Str.ofString "count", _) (.head _); simp at e3; simp [e1, e4]; done))
      · repeat' ((fail_if_success (with_reducible show wpAny _ _ (pyIter _) _ _ _)); (fail_if_success (with_reducible show wpAny _ _ (compareOp CmpOp.Is _ _) _ _ _)); (fail_if_success (with_reducible show InvEndN _ _ _ _ _ _ _)); (first | (k_unfold; (try dsimp only)) | (k_end; wrow_close) | walk1 | (dsimp only; walk1) | (leave1; walk_say "STEP leave1"; try dsimp only) | fail "no step"))
        all_goals first
          | ((rename ((_ : Str) == _) = _ => hEq); exfalso; simp [hcn] at hEq; done)
          | ((rename News _ _ _ _ => eN); (rename Fr _ _ _ _ => eF); refine kst_end (_, _) eF eN (fun p hp => List.mem_append_left _ hp) (fun p hp => List.mem_append_right _ hp) (by rfl) trivial (fun p hp => by rcases List.mem_cons.mp hp with rfl | hp; rfl; cases hp) ?_ ?_; all_goals first | exact hcn.symm | (intro z e1 e2 e3; have e4 : z ≠ Str.ofString "count" := e2 (Str.ofString "count", _) (.head _); simp at e3; simp [e1, e4]; done))
    · refine is_other hz hu2 (by simp [hnc]) ?_
      have hcn : cnt c (pre ++ [(n : Int)]) = cnt c pre := by simp [cnt, List.foldl_append]; omega
      repeat' ((fail_if_success (with_reducible show wpAny _ _ (pyIter _) _ _ _)); (fail_if_success (with_reducible show wpAny _ _ (compareOp CmpOp.Is _ _) _ _ _)); (fail_if_success (with_reducible show InvEndN _ _ _ _ _ _ _)); (first | (k_unfold; (try dsimp only)) | (k_end; wrow_close) | walk1 | (dsimp only; walk1) | (leave1; walk_say "STEP leave1"; try dsimp only) | fail "no step"))
      all_goals first
        | ((rename ((_ : Str) == _) = _ => hEq); exfalso; simp [hnc] at hEq; done)
        | ((rename News _ _ _ _ => eN); (rename Fr _ _ _ _ => eF); refine kst_end (_, _) eF eN (fun p hp => List.mem_append_left _ hp) (fun p hp => List.mem_append_right _ hp) (by rfl) trivial (fun p hp => by rcases List.mem_cons.mp hp with rfl | hp; rfl; cases hp) ?_ ?_; all_goals first | exact hcn.symm | (intro z e1 e2 e3; have e4 : z ≠ Str.ofString "count" := e2 (Str.ofString "count", _) (.head _); simp at e3; simp [e1, e4]; done))
end
end Mine
end
section
open PySem PySem.W PySem.Calls PyProof.Rows
set_option Elab.async false
set_option maxRecDepth 100000
set_option maxHeartbeats 8000000
namespace Mine
local macro_rules | `(tactic| k_room) => `(tactic| ((try simp only [depth_under_make, depth_under_kw, depth_in1, depth_deeper, depth_caller]); (try simp only [recursionLimit] at *); (try dsimp only); omega))
local macro_rules | `(tactic| walk_at "call builtin:max") => `(tactic| (k_here; (with_reducible show wpAny _ _ (call _ [Value.float _ _, Value.float _ _, Value.float _ _]) _ _ _); k_dflt (refine' max3f ?k0 ?k1 ?k2 ?_; (case k0 => exact rfl); (case k1 => k_asm); (case k2 => k_asm)); intro h' tk' v' F' N'))
local macro_rules | `(tactic| walk_at "call builtin:max") => `(tactic| (k_here; (with_reducible show wpAny _ _ (call _ [Value.int _ _, Value.int _ _, Value.int _ _]) _ _ _); k_dflt (refine' max3i ?k0 ?k1 ?k2 ?_; (case k0 => exact rfl); (case k1 => k_asm); (case k2 => k_asm)); intro h' tk' v' M' hM' F' N'))
local macro_rules | `(tactic| walk_at "call builtin:min") => `(tactic| (k_here; (with_reducible show wpAny _ _ (call _ [Value.float _ _, Value.float _ _, Value.float _ _]) _ _ _); k_dflt (refine' min3f ?k0 ?k1 ?k2 ?_; (case k0 => exact rfl); (case k1 => k_asm); (case k2 => k_asm)); intro h' tk' v' F' N'))
local macro_rules | `(tactic| walk_at "call builtin:min") => `(tactic| (k_here; (with_reducible show wpAny _ _ (call _ [Value.int _ _, Value.int _ _, Value.int _ _]) _ _ _); k_dflt (refine' min3i ?k0 ?k1 ?k2 ?_; (case k0 => exact rfl); (case k1 => k_asm); (case k2 => k_asm)); intro h' tk' v' M' hM' F' N'))
section
variable {w : World} {mean : ExcName → Option Value} {mg mb : Str → Option Value} {dp un : Nat} {gd : Option (List Code)} {cn : Str} {cs : Scope} {a : Addr} {ccd : Value} {cl : List (Str × Addr)} {outer : List Env} {A₀ : Around} {base h₀ : Heap} {L : Addr} {m : Str → Option Value} {s : Shared} {Q E : Value → Shared → Prop} {news : List (Addr × Obj)}

theorem b1_spec {n : Nat} {t1 : Tok} (B : Below A₀ base outer h₀) (F : Fr h₀ L s.heap m) (KX : (K w.params).In h₀) (N : News h₀ L s.heap news) (T : Top q (looseW q loose) mean mg mb h₀) (hcs : cs.kind = .function) (hd : dp + 8 < recursionLimit) (hu : un + 30 < cLine)
    (hret : ∀ (h' : Heap) (tk' : Nat), Fr h₀ L h' m → News h₀ L h' news → Q (.bool (b1L.contains (n : Int))) { s with heap := h', toks := tk' }) :
      wpAny (model PySem.Challenge.rw_to0001_01.row.prog w) (ktrTop dp un gd cn cs L a ccd cl outer) (call (.ref 32) [.str ⟨#[n]⟩ t1]) Q E s := by
  revert KX; k_fill; intro KX
  refine wpAny_call ?_
  k_dflt cell_enter
  (rename Fr _ _ _ _ => F1)
  have F2 : Fr _ _ _ (fun z => List.lookup z [(Str.ofString "code", Value.str ⟨#[n]⟩ t1)]) := F1
  clear F1
  repeat' ((fail_if_success (with_reducible show wpAny _ _ (compareOp CmpOp.In _ _) _ _ _)); (first | (k_unfold; (try dsimp only)) | (k_end; wrow_close) | walk1 | (dsimp only; walk1) | (leave1; walk_say "STEP leave1"; try dsimp only) | fail "no step"))
  (rename Fr _ _ _ _ => eF)
  refine wpAny_inSet_of (intKind_is _ _ _ _) rfl ((b1S w.params).setOf (eF.keep _ _ ((by assumption : (K w.params).In _) _ _ rfl)) (by decide)) ?_
  repeat' (first | (k_unfold; (try dsimp only)) | (k_end; wrow_close) | walk1 | (dsimp only; walk1) | (leave1; walk_say "STEP leave1"; try dsimp only) | fail "no step")
  exact hret _ _ (by k_asm) (by k_asm)
theorem c6_spec {n : Nat} {t1 : Tok} (B : Below A₀ base outer h₀) (F : Fr h₀ L s.heap m) (KX : (K w.params).In h₀) (N : News h₀ L s.heap news) (T : Top q (looseW q loose) mean mg mb h₀) (hcs : cs.kind = .function) (hd : dp + 8 < recursionLimit) (hu : un + 30 < cLine)
    (hret : ∀ (h' : Heap) (tk' : Nat), Fr h₀ L h' m → News h₀ L h' news → Q (.bool (c6L.contains (n : Int))) { s with heap := h', toks := tk' }) :
      wpAny (model PySem.Challenge.rw_to0001_01.row.prog w) (ktrTop dp un gd cn cs L a ccd cl outer) (call (.ref 44) [.str ⟨#[n]⟩ t1]) Q E s := by
  revert KX; k_fill; intro KX
  refine wpAny_call ?_
  k_dflt cell_enter
  (rename Fr _ _ _ _ => F1)
  have F2 : Fr _ _ _ (fun z => List.lookup z [(Str.ofString "code", Value.str ⟨#[n]⟩ t1)]) := F1
  clear F1
  repeat' ((fail_if_success (with_reducible show wpAny _ _ (compareOp CmpOp.In _ _) _ _ _)); (first | (k_unfold; (try dsimp only)) | (k_end; wrow_close) | walk1 | (dsimp only; walk1) | (leave1; walk_say "STEP leave1"; try dsimp only) | fail "no step"))
  (rename Fr _ _ _ _ => eF)
  refine wpAny_inSet_of (intKind_is _ _ _ _) rfl ((c6S w.params).setOf (eF.keep _ _ ((by assumption : (K w.params).In _) _ _ rfl)) (by decide)) ?_
  repeat' (first | (k_unfold; (try dsimp only)) | (k_end; wrow_close) | walk1 | (dsimp only; walk1) | (leave1; walk_say "STEP leave1"; try dsimp only) | fail "no step")
  exact hret _ _ (by k_asm) (by k_asm)
theorem c7_spec {n : Nat} {t1 : Tok} (B : Below A₀ base outer h₀) (F : Fr h₀ L s.heap m) (KX : (K w.params).In h₀) (N : News h₀ L s.heap news) (T : Top q (looseW q loose) mean mg mb h₀) (hcs : cs.kind = .function) (hd : dp + 8 < recursionLimit) (hu : un + 30 < cLine)
    (hret : ∀ (h' : Heap) (tk' : Nat), Fr h₀ L h' m → News h₀ L h' news → Q (.bool (((List.range 12).map fun (i : Nat) => 12272 + (i : Int)).contains (n : Int))) { s with heap := h', toks := tk' }) :
      wpAny (model PySem.Challenge.rw_to0001_01.row.prog w) (ktrTop dp un gd cn cs L a ccd cl outer) (call (.ref 56) [.str ⟨#[n]⟩ t1]) Q E s := by
  revert KX; k_fill; intro KX
  refine wpAny_call ?_
  k_dflt cell_enter
  (rename Fr _ _ _ _ => F1)
  have F2 : Fr _ _ _ (fun z => List.lookup z [(Str.ofString "code", Value.str ⟨#[n]⟩ t1)]) := F1
  clear F1
  repeat' ((fail_if_success (with_reducible show wpAny _ _ (compareOp CmpOp.In _ _) _ _ _)); (first | (k_unfold; (try dsimp only)) | (k_end; wrow_close) | walk1 | (dsimp only; walk1) | (leave1; walk_say "STEP leave1"; try dsimp only) | fail "no step"))
  (rename Fr _ _ _ _ => eF)
  refine wpAny_inSet_of (intKind_is _ _ _ _) rfl ((c7S w.params).setOf (eF.keep _ _ ((by assumption : (K w.params).In _) _ _ rfl)) (by decide)) ?_
  repeat' (first | (k_unfold; (try dsimp only)) | (k_end; wrow_close) | walk1 | (dsimp only; walk1) | (leave1; walk_say "STEP leave1"; try dsimp only) | fail "no step")
  exact hret _ _ (by k_asm) (by k_asm)
theorem c9_spec {n : Nat} {t1 : Tok} (B : Below A₀ base outer h₀) (F : Fr h₀ L s.heap m) (KX : (K w.params).In h₀) (N : News h₀ L s.heap news) (T : Top q (looseW q loose) mean mg mb h₀) (hcs : cs.kind = .function) (hd : dp + 8 < recursionLimit) (hu : un + 30 < cLine)
    (hret : ∀ (h' : Heap) (tk' : Nat), Fr h₀ L h' m → News h₀ L h' news → Q (.bool (c9L.contains (n : Int))) { s with heap := h', toks := tk' }) :
      wpAny (model PySem.Challenge.rw_to0001_01.row.prog w) (ktrTop dp un gd cn cs L a ccd cl outer) (call (.ref 74) [.str ⟨#[n]⟩ t1]) Q E s := by
  revert KX; k_fill; intro KX
  refine wpAny_call ?_
  k_dflt cell_enter
  (rename Fr _ _ _ _ => F1)
  have F2 : Fr _ _ _ (fun z => List.lookup z [(Str.ofString "code", Value.str ⟨#[n]⟩ t1)]) := F1
  clear F1
  repeat' ((fail_if_success (with_reducible show wpAny _ _ (compareOp CmpOp.In _ _) _ _ _)); (first | (k_unfold; (try dsimp only)) | (k_end; wrow_close) | walk1 | (dsimp only; walk1) | (leave1; walk_say "STEP leave1"; try dsimp only) | fail "no step"))
  (rename Fr _ _ _ _ => eF)
  refine wpAny_inSet_of (intKind_is _ _ _ _) rfl ((c9S w.params).setOf (eF.keep _ _ ((by assumption : (K w.params).In _) _ _ rfl)) (by decide)) ?_
  repeat' (first | (k_unfold; (try dsimp only)) | (k_end; wrow_close) | walk1 | (dsimp only; walk1) | (leave1; walk_say "STEP leave1"; try dsimp only) | fail "no step")
  exact hret _ _ (by k_asm) (by k_asm)
end
end Mine
end
section
open PySem PySem.W PySem.Calls PyProof.Rows
set_option Elab.async false
set_option maxRecDepth 100000
set_option maxHeartbeats 8000000
namespace Mine
local macro_rules | `(tactic| k_room) => `(tactic| ((try simp only [depth_under_make, depth_under_kw, depth_in1, depth_deeper, depth_caller]); (try simp only [recursionLimit] at *); (try dsimp only); omega))
local macro_rules | `(tactic| walk_at "call builtin:max") => `(tactic| (k_here; (with_reducible show wpAny _ _ (call _ [Value.float _ _, Value.float _ _, Value.float _ _]) _ _ _); k_dflt (refine' max3f ?k0 ?k1 ?k2 ?_; (case k0 => exact rfl); (case k1 => k_asm); (case k2 => k_asm)); intro h' tk' v' F' N'))
local macro_rules | `(tactic| walk_at "call builtin:max") => `(tactic| (k_here; (with_reducible show wpAny _ _ (call _ [Value.int _ _, Value.int _ _, Value.int _ _]) _ _ _); k_dflt (refine' max3i ?k0 ?k1 ?k2 ?_; (case k0 => exact rfl); (case k1 => k_asm); (case k2 => k_asm)); intro h' tk' v' M' hM' F' N'))
local macro_rules | `(tactic| walk_at "call builtin:min") => `(tactic| (k_here; (with_reducible show wpAny _ _ (call _ [Value.float _ _, Value.float _ _, Value.float _ _]) _ _ _); k_dflt (refine' min3f ?k0 ?k1 ?k2 ?_; (case k0 => exact rfl); (case k1 => k_asm); (case k2 => k_asm)); intro h' tk' v' F' N'))
local macro_rules | `(tactic| walk_at "call builtin:min") => `(tactic| (k_here; (with_reducible show wpAny _ _ (call _ [Value.int _ _, Value.int _ _, Value.int _ _]) _ _ _); k_dflt (refine' min3i ?k0 ?k1 ?k2 ?_; (case k0 => exact rfl); (case k1 => k_asm); (case k2 => k_asm)); intro h' tk' v' M' hM' F' N'))
section
variable {w : World} {mean : ExcName → Option Value} {mg mb : Str → Option Value} {dp un : Nat} {gd : Option (List Code)} {cn : Str} {cs : Scope} {a : Addr} {ccd : Value} {cl : List (Str × Addr)} {outer : List Env} {A₀ : Around} {base h₀ : Heap} {L : Addr} {m : Str → Option Value} {s : Shared} {Q E : Value → Shared → Prop} {news : List (Addr × Obj)}

def c7L : List Int := (List.range 12).map fun (i : Nat) => 12272 + (i : Int)
def rdC (n : Int) : Int := if c6L.contains n then 114 else if c7L.contains n then 103 else if c9L.contains n then 98 else 63
def rdS (acc : List Int) (n : Int) : List Int := if b1L.contains n then acc else acc ++ [rdC n]
theorem read_spec {xt : Str} {t1 : Tok} (hxl : xt.length ≤ 32) (B : Below A₀ base outer h₀) (F : Fr h₀ L s.heap m) (KX : (K w.params).In h₀) (N : News h₀ L s.heap news) (T : Top q (looseW q loose) mean mg mb h₀) (hcs : cs.kind = .function) (hd : dp + 12 < recursionLimit) (hu : un + 60 < cLine)
    (hret : ∀ (t : Tok) (h' : Heap) (tk' : Nat), Fr h₀ L h' m → News h₀ L h' news → Q (.str (KStt.txt ((KStt.codes xt).foldl rdS [])) t) { s with heap := h', toks := tk' }) :
      wpAny (model PySem.Challenge.rw_to0001_01.row.prog w) (ktrTop dp un gd cn cs L a ccd cl outer) (call (.ref 149) [.str xt t1]) Q E s := by
  revert KX; k_fill; intro KX
  refine wpAny_call ?_
  k_dflt cell_enter
  (rename Fr _ _ _ _ => F1)
  have F2 : Fr _ _ _ (fun z => List.lookup z [(Str.ofString "text", Value.str xt t1)]) := F1
  clear F1
  repeat' ((fail_if_success (with_reducible show wpAny _ _ (exec (Stmt.For _ _ _ _ _) _) _ _ _)); (fail_if_success (with_reducible show wpAny _ _ (pyIter _) _ _ _)); (fail_if_success (with_reducible show InvEndN _ _ _ _ _ _ _)); (first | ((with_reducible show wpAny _ _ (call (Value.ref 32) [Value.str _ _]) _ _ _); k_dflt (refine' b1_spec ?B32 ?F32 ?X32 ?N32 ?T32 ?c32 ?d32 ?u32 ?r32; (case B32 => k_asm); (case F32 => k_asm); (case X32 => k_asm); (case N32 => k_asm); (case T32 => k_asm); (case c32 => first | exact rfl | assumption); (case d32 => ((try simp only [depth_deeper]); omega)); (case u32 => ((try simp only [units_deeper]); omega))); intro h' tk' F' N') | ((with_reducible show wpAny _ _ (call (Value.ref 44) [Value.str _ _]) _ _ _); k_dflt (refine' c6_spec ?B44 ?F44 ?X44 ?N44 ?T44 ?c44 ?d44 ?u44 ?r44; (case B44 => k_asm); (case F44 => k_asm); (case X44 => k_asm); (case N44 => k_asm); (case T44 => k_asm); (case c44 => first | exact rfl | assumption); (case d44 => ((try simp only [depth_deeper]); omega)); (case u44 => ((try simp only [units_deeper]); omega))); intro h' tk' F' N') | ((with_reducible show wpAny _ _ (call (Value.ref 56) [Value.str _ _]) _ _ _); k_dflt (refine' c7_spec ?B56 ?F56 ?X56 ?N56 ?T56 ?c56 ?d56 ?u56 ?r56; (case B56 => k_asm); (case F56 => k_asm); (case X56 => k_asm); (case N56 => k_asm); (case T56 => k_asm); (case c56 => first | exact rfl | assumption); (case d56 => ((try simp only [depth_deeper]); omega)); (case u56 => ((try simp only [units_deeper]); omega))); intro h' tk' F' N') | ((with_reducible show wpAny _ _ (call (Value.ref 74) [Value.str _ _]) _ _ _); k_dflt (refine' c9_spec ?B74 ?F74 ?X74 ?N74 ?T74 ?c74 ?d74 ?u74 ?r74; (case B74 => k_asm); (case F74 => k_asm); (case X74 => k_asm); (case N74 => k_asm); (case T74 => k_asm); (case c74 => first | exact rfl | assumption); (case d74 => ((try simp only [depth_deeper]); omega)); (case u74 => ((try simp only [units_deeper]); omega))); intro h' tk' F' N') | ((fail_if_success (with_reducible show wpAny _ _ (call (Value.ref _) _) _ _ _)); first | (k_unfold; (try dsimp only)) | (k_end; wrow_close) | walk1 | (dsimp only; walk1) | (leave1; walk_say "STEP leave1"; try dsimp only) | fail "no step")))
  (rename Fr _ _ _ _ => lF')
  (with_unfolding_all refine' For_invVF lF' ?k1 ?k2 ?_; (case k1 => exact rfl); (case k2 => exact rfl))
  repeat' ((fail_if_success (with_reducible show wpAny _ _ (pyIter _) _ _ _)); (fail_if_success (with_reducible show InvEndN _ _ _ _ _ _ _)); (first | ((with_reducible show wpAny _ _ (call (Value.ref 32) [Value.str _ _]) _ _ _); k_dflt (refine' b1_spec ?B32 ?F32 ?X32 ?N32 ?T32 ?c32 ?d32 ?u32 ?r32; (case B32 => k_asm); (case F32 => k_asm); (case X32 => k_asm); (case N32 => k_asm); (case T32 => k_asm); (case c32 => first | exact rfl | assumption); (case d32 => ((try simp only [depth_deeper]); omega)); (case u32 => ((try simp only [units_deeper]); omega))); intro h' tk' F' N') | ((with_reducible show wpAny _ _ (call (Value.ref 44) [Value.str _ _]) _ _ _); k_dflt (refine' c6_spec ?B44 ?F44 ?X44 ?N44 ?T44 ?c44 ?d44 ?u44 ?r44; (case B44 => k_asm); (case F44 => k_asm); (case X44 => k_asm); (case N44 => k_asm); (case T44 => k_asm); (case c44 => first | exact rfl | assumption); (case d44 => ((try simp only [depth_deeper]); omega)); (case u44 => ((try simp only [units_deeper]); omega))); intro h' tk' F' N') | ((with_reducible show wpAny _ _ (call (Value.ref 56) [Value.str _ _]) _ _ _); k_dflt (refine' c7_spec ?B56 ?F56 ?X56 ?N56 ?T56 ?c56 ?d56 ?u56 ?r56; (case B56 => k_asm); (case F56 => k_asm); (case X56 => k_asm); (case N56 => k_asm); (case T56 => k_asm); (case c56 => first | exact rfl | assumption); (case d56 => ((try simp only [depth_deeper]); omega)); (case u56 => ((try simp only [units_deeper]); omega))); intro h' tk' F' N') | ((with_reducible show wpAny _ _ (call (Value.ref 74) [Value.str _ _]) _ _ _); k_dflt (refine' c9_spec ?B74 ?F74 ?X74 ?N74 ?T74 ?c74 ?d74 ?u74 ?r74; (case B74 => k_asm); (case F74 => k_asm); (case X74 => k_asm); (case N74 => k_asm); (case T74 => k_asm); (case c74 => first | exact rfl | assumption); (case d74 => ((try simp only [depth_deeper]); omega)); (case u74 => ((try simp only [units_deeper]); omega))); intro h' tk' F' N') | ((fail_if_success (with_reducible show wpAny _ _ (call (Value.ref _) _) _ _ _)); first | (k_unfold; (try dsimp only)) | (k_end; wrow_close) | walk1 | (dsimp only; walk1) | (leave1; walk_say "STEP leave1"; try dsimp only) | fail "no step")))
  (rename Fr _ _ _ _ => lF); (rename News _ _ _ _ => lN)
  refine KStt.kst_text (σ := List Int × Tok) (fun _ => news) (fun c => [(Str.ofString "marks", Value.str (KStt.txt c.1) c.2)]) (fun _ => True) [] (fun pre r => r.1 = pre.foldl rdS [] ∧ r.1.length ≤ pre.length) ([], _) rfl lF lN trivial (fun p hp => by rcases List.mem_cons.mp hp with rfl | hp; rfl; cases hp) ⟨rfl, Nat.le_refl _⟩ ?turn ?done
  case done =>
    clear lF lN
    rintro ⟨c1, tc1⟩ u1 h1 tk1 - ⟨hc1, hl1⟩ lF lN
    dsimp only [kstB] at hc1 hl1 lF lN
    subst hc1
    repeat' ((fail_if_success (with_reducible show wpAny _ _ (pyIter _) _ _ _)); (fail_if_success (with_reducible show InvEndN _ _ _ _ _ _ _)); (first | ((with_reducible show wpAny _ _ (call (Value.ref 32) [Value.str _ _]) _ _ _); k_dflt (refine' b1_spec ?B32 ?F32 ?X32 ?N32 ?T32 ?c32 ?d32 ?u32 ?r32; (case B32 => k_asm); (case F32 => k_asm); (case X32 => k_asm); (case N32 => k_asm); (case T32 => k_asm); (case c32 => first | exact rfl | assumption); (case d32 => ((try simp only [depth_deeper]); omega)); (case u32 => ((try simp only [units_deeper]); omega))); intro h' tk' F' N') | ((with_reducible show wpAny _ _ (call (Value.ref 44) [Value.str _ _]) _ _ _); k_dflt (refine' c6_spec ?B44 ?F44 ?X44 ?N44 ?T44 ?c44 ?d44 ?u44 ?r44; (case B44 => k_asm); (case F44 => k_asm); (case X44 => k_asm); (case N44 => k_asm); (case T44 => k_asm); (case c44 => first | exact rfl | assumption); (case d44 => ((try simp only [depth_deeper]); omega)); (case u44 => ((try simp only [units_deeper]); omega))); intro h' tk' F' N') | ((with_reducible show wpAny _ _ (call (Value.ref 56) [Value.str _ _]) _ _ _); k_dflt (refine' c7_spec ?B56 ?F56 ?X56 ?N56 ?T56 ?c56 ?d56 ?u56 ?r56; (case B56 => k_asm); (case F56 => k_asm); (case X56 => k_asm); (case N56 => k_asm); (case T56 => k_asm); (case c56 => first | exact rfl | assumption); (case d56 => ((try simp only [depth_deeper]); omega)); (case u56 => ((try simp only [units_deeper]); omega))); intro h' tk' F' N') | ((with_reducible show wpAny _ _ (call (Value.ref 74) [Value.str _ _]) _ _ _); k_dflt (refine' c9_spec ?B74 ?F74 ?X74 ?N74 ?T74 ?c74 ?d74 ?u74 ?r74; (case B74 => k_asm); (case F74 => k_asm); (case X74 => k_asm); (case N74 => k_asm); (case T74 => k_asm); (case c74 => first | exact rfl | assumption); (case d74 => ((try simp only [depth_deeper]); omega)); (case u74 => ((try simp only [units_deeper]); omega))); intro h' tk' F' N') | ((fail_if_success (with_reducible show wpAny _ _ (call (Value.ref _) _) _ _ _)); first | (k_unfold; (try dsimp only)) | (k_end; wrow_close) | walk1 | (dsimp only; walk1) | (leave1; walk_say "STEP leave1"; try dsimp only) | fail "no step")))
    exact hret _ _ _ (by k_asm) (by k_asm)
  case turn =>
    clear lF lN
    rintro ⟨c1, tc1⟩ pre post n tn u1 h1 tk1 own hcod hoff - ⟨hc1, hl1⟩ lF lN
    have kMk := kstMark
    have hpl : pre.length < 32 := by
      have e := congrArg List.length hcod
      rw [KStt.codes_length, List.length_append, List.length_cons] at e
      omega
    have hcl : (KStt.txt c1).length ≤ 32 := by rw [KStt.txt_length]; dsimp only at hl1; omega
    have hR : ∀ (d : Nat) (y : String), Str.ofString y = ⟨#[d]⟩ → KStt.txt c1 ++ Str.ofString y = KStt.txt (c1 ++ [(d : Int)]) := by intro d y e; rw [e]; exact (KStt.txt_snoc c1 d).symm
    dsimp only [kstB] at hc1 hl1 lF lN
    (try dsimp only)
    (try k_fold)
    repeat' ((fail_if_success (with_reducible show wpAny _ _ (pyIter _) _ _ _)); (fail_if_success (with_reducible show InvEndN _ _ _ _ _ _ _)); (first | ((with_reducible show wpAny _ _ (call (Value.ref 32) [Value.str _ _]) _ _ _); k_dflt (refine' b1_spec ?B32 ?F32 ?X32 ?N32 ?T32 ?c32 ?d32 ?u32 ?r32; (case B32 => k_asm); (case F32 => k_asm); (case X32 => k_asm); (case N32 => k_asm); (case T32 => k_asm); (case c32 => first | exact rfl | assumption); (case d32 => ((try simp only [depth_deeper]); omega)); (case u32 => ((try simp only [units_deeper]); omega))); intro h' tk' F' N') | ((with_reducible show wpAny _ _ (call (Value.ref 44) [Value.str _ _]) _ _ _); k_dflt (refine' c6_spec ?B44 ?F44 ?X44 ?N44 ?T44 ?c44 ?d44 ?u44 ?r44; (case B44 => k_asm); (case F44 => k_asm); (case X44 => k_asm); (case N44 => k_asm); (case T44 => k_asm); (case c44 => first | exact rfl | assumption); (case d44 => ((try simp only [depth_deeper]); omega)); (case u44 => ((try simp only [units_deeper]); omega))); intro h' tk' F' N') | ((with_reducible show wpAny _ _ (call (Value.ref 56) [Value.str _ _]) _ _ _); k_dflt (refine' c7_spec ?B56 ?F56 ?X56 ?N56 ?T56 ?c56 ?d56 ?u56 ?r56; (case B56 => k_asm); (case F56 => k_asm); (case X56 => k_asm); (case N56 => k_asm); (case T56 => k_asm); (case c56 => first | exact rfl | assumption); (case d56 => ((try simp only [depth_deeper]); omega)); (case u56 => ((try simp only [units_deeper]); omega))); intro h' tk' F' N') | ((with_reducible show wpAny _ _ (call (Value.ref 74) [Value.str _ _]) _ _ _); k_dflt (refine' c9_spec ?B74 ?F74 ?X74 ?N74 ?T74 ?c74 ?d74 ?u74 ?r74; (case B74 => k_asm); (case F74 => k_asm); (case X74 => k_asm); (case N74 => k_asm); (case T74 => k_asm); (case c74 => first | exact rfl | assumption); (case d74 => ((try simp only [depth_deeper]); omega)); (case u74 => ((try simp only [units_deeper]); omega))); intro h' tk' F' N') | ((fail_if_success (with_reducible show wpAny _ _ (call (Value.ref _) _) _ _ _)); first | (k_unfold; (try dsimp only)) | (k_end; wrow_close) | walk1 | (dsimp only; walk1) | (leave1; walk_say "STEP leave1"; try dsimp only) | fail "no step")))
    all_goals (rename News _ _ _ _ => eN); (rename Fr _ _ _ _ => eF)
    all_goals (rename (b1L.contains _ = _) => k1)
    · (refine kst_end (c1, _) eF eN (fun p hp => List.mem_append_left _ hp) (fun p hp => List.mem_append_right _ hp) (by rfl) trivial (fun p hp => by rcases List.mem_cons.mp hp with rfl | hp; exact rfl; cases hp) ?_ ?_; (focus (intro z e1 e2 e3; have e4 : z ≠ Str.ofString "marks" := e2 (Str.ofString "marks", _) (.head _); simp [e1, e4])); (focus (refine ⟨?_, ?_⟩; (focus ((try dsimp only); rw [List.foldl_append, ← hc1]; simp only [List.foldl_cons, List.foldl_nil, rdS, rdC, k1, if_true, if_false, Bool.false_eq_true]; done)); (focus ((try simp only [List.length_append, List.length_cons, List.length_nil]); omega)))))
    · (rename (c6L.contains _ = _) => k2); (refine kst_end (c1 ++ [114], _) eF eN (fun p hp => List.mem_append_left _ hp) (fun p hp => List.mem_append_right _ hp) (by rfl) trivial (fun p hp => by rcases List.mem_cons.mp hp with rfl | hp; exact (congrArg (fun x => some (Value.str x _)) (hR 114 "r" rfl)); cases hp) ?_ ?_; (focus (intro z e1 e2 e3; have e4 : z ≠ Str.ofString "marks" := e2 (Str.ofString "marks", _) (.head _); simp [e1, e4])); (focus (refine ⟨?_, ?_⟩; (focus ((try dsimp only); rw [List.foldl_append, ← hc1]; simp only [List.foldl_cons, List.foldl_nil, rdS, rdC, k1, k2, if_true, if_false, Bool.false_eq_true]; done)); (focus ((try simp only [List.length_append, List.length_cons, List.length_nil]); omega)))))
    · (rename (c6L.contains _ = _) => k2); (rename (List.contains (List.map _ _) _ = _) => k3'); (have k3 : c7L.contains _ = _ := k3'); (refine kst_end (c1 ++ [103], _) eF eN (fun p hp => List.mem_append_left _ hp) (fun p hp => List.mem_append_right _ hp) (by rfl) trivial (fun p hp => by rcases List.mem_cons.mp hp with rfl | hp; exact (congrArg (fun x => some (Value.str x _)) (hR 103 "g" rfl)); cases hp) ?_ ?_; (focus (intro z e1 e2 e3; have e4 : z ≠ Str.ofString "marks" := e2 (Str.ofString "marks", _) (.head _); simp [e1, e4])); (focus (refine ⟨?_, ?_⟩; (focus ((try dsimp only); rw [List.foldl_append, ← hc1]; simp only [List.foldl_cons, List.foldl_nil, rdS, rdC, k1, k2, k3, if_true, if_false, Bool.false_eq_true]; done)); (focus ((try simp only [List.length_append, List.length_cons, List.length_nil]); omega)))))
    · (rename (c6L.contains _ = _) => k2); (rename (List.contains (List.map _ _) _ = _) => k3'); (have k3 : c7L.contains _ = _ := k3'); (rename (c9L.contains _ = _) => k4); (refine kst_end (c1 ++ [98], _) eF eN (fun p hp => List.mem_append_left _ hp) (fun p hp => List.mem_append_right _ hp) (by rfl) trivial (fun p hp => by rcases List.mem_cons.mp hp with rfl | hp; exact (congrArg (fun x => some (Value.str x _)) (hR 98 "b" rfl)); cases hp) ?_ ?_; (focus (intro z e1 e2 e3; have e4 : z ≠ Str.ofString "marks" := e2 (Str.ofString "marks", _) (.head _); simp [e1, e4])); (focus (refine ⟨?_, ?_⟩; (focus ((try dsimp only); rw [List.foldl_append, ← hc1]; simp only [List.foldl_cons, List.foldl_nil, rdS, rdC, k1, k2, k3, k4, if_true, if_false, Bool.false_eq_true]; done)); (focus ((try simp only [List.length_append, List.length_cons, List.length_nil]); omega)))))
    · (rename (c6L.contains _ = _) => k2); (rename (List.contains (List.map _ _) _ = _) => k3'); (have k3 : c7L.contains _ = _ := k3'); (rename (c9L.contains _ = _) => k4); (refine kst_end (c1 ++ [63], _) eF eN (fun p hp => List.mem_append_left _ hp) (fun p hp => List.mem_append_right _ hp) (by rfl) trivial (fun p hp => by rcases List.mem_cons.mp hp with rfl | hp; exact (congrArg (fun x => some (Value.str x _)) (hR 63 "?" rfl)); cases hp) ?_ ?_; (focus (intro z e1 e2 e3; have e4 : z ≠ Str.ofString "marks" := e2 (Str.ofString "marks", _) (.head _); simp [e1, e4])); (focus (refine ⟨?_, ?_⟩; (focus ((try dsimp only); rw [List.foldl_append, ← hc1]; simp only [List.foldl_cons, List.foldl_nil, rdS, rdC, k1, k2, k3, k4, if_true, if_false, Bool.false_eq_true]; done)); (focus ((try simp only [List.length_append, List.length_cons, List.length_nil]); omega)))))
end
end Mine
end
section
open PySem PySem.W PySem.Calls PyProof.Rows
set_option Elab.async false
set_option maxRecDepth 100000
set_option maxHeartbeats 8000000
namespace Mine
local macro_rules | `(tactic| k_room) => `(tactic| ((try simp only [depth_under_make, depth_under_kw, depth_in1, depth_deeper, depth_caller]); (try simp only [recursionLimit] at *); (try dsimp only); omega))
local macro_rules | `(tactic| walk_at "call builtin:max") => `(tactic| (k_here; (with_reducible show wpAny _ _ (call _ [Value.float _ _, Value.float _ _, Value.float _ _]) _ _ _); k_dflt (refine' max3f ?k0 ?k1 ?k2 ?_; (case k0 => exact rfl); (case k1 => k_asm); (case k2 => k_asm)); intro h' tk' v' F' N'))
local macro_rules | `(tactic| walk_at "call builtin:max") => `(tactic| (k_here; (with_reducible show wpAny _ _ (call _ [Value.int _ _, Value.int _ _, Value.int _ _]) _ _ _); k_dflt (refine' max3i ?k0 ?k1 ?k2 ?_; (case k0 => exact rfl); (case k1 => k_asm); (case k2 => k_asm)); intro h' tk' v' M' hM' F' N'))
local macro_rules | `(tactic| walk_at "call builtin:min") => `(tactic| (k_here; (with_reducible show wpAny _ _ (call _ [Value.float _ _, Value.float _ _, Value.float _ _]) _ _ _); k_dflt (refine' min3f ?k0 ?k1 ?k2 ?_; (case k0 => exact rfl); (case k1 => k_asm); (case k2 => k_asm)); intro h' tk' v' F' N'))
local macro_rules | `(tactic| walk_at "call builtin:min") => `(tactic| (k_here; (with_reducible show wpAny _ _ (call _ [Value.int _ _, Value.int _ _, Value.int _ _]) _ _ _); k_dflt (refine' min3i ?k0 ?k1 ?k2 ?_; (case k0 => exact rfl); (case k1 => k_asm); (case k2 => k_asm)); intro h' tk' v' M' hM' F' N'))
section
variable {w : World} {mean : ExcName → Option Value} {mg mb : Str → Option Value} {dp un : Nat} {gd : Option (List Code)} {cn : Str} {cs : Scope} {a : Addr} {ccd : Value} {cl : List (Str × Addr)} {outer : List Env} {A₀ : Around} {base h₀ : Heap} {L : Addr} {m : Str → Option Value} {s : Shared} {Q E : Value → Shared → Prop} {news : List (Addr × Obj)}

theorem q_str {Q : Value → Shared → Prop} {x y : Str} {t : Tok} {s : Shared} (e : x = y) (h : Q (.str x t) s) : Q (.str y t) s := e ▸ h
def spA (v : Int) : List Int := if (v.fdiv 288).fmod 17 = 0 then [] else [65023 + (v.fdiv 288).fmod 17]
def spB (v : Int) : Int := if v.fmod 3 = 0 then 65529 + (v.fdiv 3).fmod 5 else if v.fmod 3 = 1 then 12272 + (v.fdiv 3).fmod 12 else 917536 + (v.fdiv 3).fmod 96
def spL (v : Int) : List Int := spA v ++ [spB v]
theorem spelled_spec {v : Int} {t1 : Tok} (B : Below A₀ base outer h₀) (F : Fr h₀ L s.heap m) (KX : (K w.params).In h₀) (N : News h₀ L s.heap news) (T : Top q (looseW q loose) mean mg mb h₀) (hcs : cs.kind = .function) (hd : dp + 8 < recursionLimit) (hu : un + 60 < cLine)
    (hret : ∀ (t : Tok) (h' : Heap) (tk' : Nat), Fr h₀ L h' m → News h₀ L h' news → Q (.str (KStt.txt (spL v)) t) { s with heap := h', toks := tk' }) :
      wpAny (model PySem.Challenge.rw_to0001_01.row.prog w) (ktrTop dp un gd cn cs L a ccd cl outer) (call (.ref 142) [.int v t1]) Q E s := by
  revert KX; k_fill; intro KX
  refine wpAny_call ?_
  k_dflt cell_enter
  (rename Fr _ _ _ _ => F1)
  have F2 : Fr _ _ _ (fun z => List.lookup z [(Str.ofString "v", Value.int v t1)]) := F1
  clear F1
  repeat' ((fail_if_success (with_reducible show wpAny _ _ (pyIter _) _ _ _)); (fail_if_success (with_reducible show InvEndN _ _ _ _ _ _ _)); (first | (k_unfold; (try dsimp only)) | (k_end; wrow_close) | walk1 | (dsimp only; walk1) | (leave1; walk_say "STEP leave1"; try dsimp only) | fail "no step"))
  · (rename (Int.fdiv v 288).fmod 17 ≠ 0 => k1); (rename v.fmod 3 = 0 => k2); refine q_str (x := KStt.txt (spL v)) ?_ (hret _ _ _ (by assumption) (by assumption))
    simp only [spL, spA, spB, k1, k2, if_true, if_false, ne_eq, not_false_eq_true, not_true]; rfl
  · (rename (Int.fdiv v 288).fmod 17 ≠ 0 => k1); (rename v.fmod 3 ≠ 0 => k2); (rename v.fmod 3 = 1 => k3); refine q_str (x := KStt.txt (spL v)) ?_ (hret _ _ _ (by assumption) (by assumption))
    simp only [spL, spA, spB, k1, k2, k3, if_true, if_false, ne_eq, not_false_eq_true, not_true]; rfl
  · (rename (Int.fdiv v 288).fmod 17 ≠ 0 => k1); (rename v.fmod 3 ≠ 0 => k2); (rename v.fmod 3 ≠ 1 => k3); refine q_str (x := KStt.txt (spL v)) ?_ (hret _ _ _ (by assumption) (by assumption))
    simp only [spL, spA, spB, k1, k2, k3, if_true, if_false, ne_eq, not_false_eq_true, not_true]; rfl
  · (rename (Int.fdiv v 288).fmod 17 = 0 => k1); (rename v.fmod 3 = 0 => k2); refine q_str (x := KStt.txt (spL v)) ?_ (hret _ _ _ (by assumption) (by assumption))
    simp only [spL, spA, spB, k1, k2, if_true, if_false, ne_eq, not_false_eq_true, not_true]; rfl
  · (rename (Int.fdiv v 288).fmod 17 = 0 => k1); (rename v.fmod 3 ≠ 0 => k2); (rename v.fmod 3 = 1 => k3); refine q_str (x := KStt.txt (spL v)) ?_ (hret _ _ _ (by assumption) (by assumption))
    simp only [spL, spA, spB, k1, k2, k3, if_true, if_false, ne_eq, not_false_eq_true, not_true]; rfl
  · (rename (Int.fdiv v 288).fmod 17 = 0 => k1); (rename v.fmod 3 ≠ 0 => k2); (rename v.fmod 3 ≠ 1 => k3); refine q_str (x := KStt.txt (spL v)) ?_ (hret _ _ _ (by assumption) (by assumption))
    simp only [spL, spA, spB, k1, k2, k3, if_true, if_false, ne_eq, not_false_eq_true, not_true]; rfl
end
end Mine
end
section
open PySem PySem.W PySem.Calls PyProof.Rows
set_option Elab.async false
set_option maxRecDepth 100000
set_option maxHeartbeats 8000000
namespace Mine
local macro_rules | `(tactic| k_room) => `(tactic| ((try simp only [depth_under_make, depth_under_kw, depth_in1, depth_deeper, depth_caller]); (try simp only [recursionLimit] at *); (try dsimp only); omega))
local macro_rules | `(tactic| walk_at "call builtin:max") => `(tactic| (k_here; (with_reducible show wpAny _ _ (call _ [Value.float _ _, Value.float _ _, Value.float _ _]) _ _ _); k_dflt (refine' max3f ?k0 ?k1 ?k2 ?_; (case k0 => exact rfl); (case k1 => k_asm); (case k2 => k_asm)); intro h' tk' v' F' N'))
local macro_rules | `(tactic| walk_at "call builtin:max") => `(tactic| (k_here; (with_reducible show wpAny _ _ (call _ [Value.int _ _, Value.int _ _, Value.int _ _]) _ _ _); k_dflt (refine' max3i ?k0 ?k1 ?k2 ?_; (case k0 => exact rfl); (case k1 => k_asm); (case k2 => k_asm)); intro h' tk' v' M' hM' F' N'))
local macro_rules | `(tactic| walk_at "call builtin:min") => `(tactic| (k_here; (with_reducible show wpAny _ _ (call _ [Value.float _ _, Value.float _ _, Value.float _ _]) _ _ _); k_dflt (refine' min3f ?k0 ?k1 ?k2 ?_; (case k0 => exact rfl); (case k1 => k_asm); (case k2 => k_asm)); intro h' tk' v' F' N'))
local macro_rules | `(tactic| walk_at "call builtin:min") => `(tactic| (k_here; (with_reducible show wpAny _ _ (call _ [Value.int _ _, Value.int _ _, Value.int _ _]) _ _ _); k_dflt (refine' min3i ?k0 ?k1 ?k2 ?_; (case k0 => exact rfl); (case k1 => k_asm); (case k2 => k_asm)); intro h' tk' v' M' hM' F' N'))
section
variable {w : World} {mean : ExcName → Option Value} {mg mb : Str → Option Value} {dp un : Nat} {gd : Option (List Code)} {cn : Str} {cs : Scope} {a : Addr} {ccd : Value} {cl : List (Str × Addr)} {outer : List Env} {A₀ : Around} {base h₀ : Heap} {L : Addr} {m : Str → Option Value} {s : Shared} {Q E : Value → Shared → Prop} {news : List (Addr × Obj)}

theorem toks_any {M : Model} {A : Around} {α : Type} {c : _} {Q : α → Shared → Prop} {E : Value → Shared → Prop} {s : Shared} {h : Heap} {tk : Nat} (g : ∀ tk, wpAny M A c Q E { s with heap := h, toks := tk }) : wpAny M A c Q E { s with heap := h, toks := tk } := g _
theorem drop2 {h₀ h : Heap} {L : Addr} {a b c : Addr × Obj} {news : List (Addr × Obj)} (N : News h₀ L h (a :: b :: c :: news)) : News h₀ L h (a :: news) := cb_drop N fun p hp => by
  rcases List.mem_cons.mp hp with rfl | hp
  · exact .head _
  · exact .tail _ (.tail _ (.tail _ hp))
theorem allLt_mem {d : Addr} {l : List (Addr × Obj)} (h : AllLt d l) : ∀ p ∈ l, p.1 < d := by
  induction l with
  | nil => intro p hp; cases hp
  | cons x r ih =>
    intro p hp
    obtain ⟨h1, h2⟩ := h
    rcases List.mem_cons.mp hp with e | hp
    · rw [e]; exact h1
    · exact ih h2 p hp
def ldV (xs : List Int) : Int := ((xs ++ [5]).getD (Int.toNat 0) 0).fmod 8
def ldB (xs : List Int) : Int := (ldV xs).fmod 2
def ldG (xs : List Int) : Int := ldB xs + 1 + ((ldV xs).fdiv 2).fmod 2
def ldR (xs : List Int) : Int := ldG xs + 1 + (ldV xs).fdiv 4
theorem lead_spec {ls : Addr} {vs : List Value} {xs : List Int} (hL : h₀.IsList ls vs.toArray) (hvs : IntsAre vs xs) (hlen : xs.length ≤ 63) (B : Below A₀ base outer h₀) (F : Fr h₀ L s.heap m) (KX : (K w.params).In h₀) (N : News h₀ L s.heap news) (T : Top q (looseW q loose) mean mg mb h₀) (hcs : cs.kind = .function) (hd : dp + 8 < recursionLimit) (hu : un + 60 < cLine) 
    (hret : ∀ (D : Addr) (t0 t1 t2 : Tok) (h' : Heap) (tk' : Nat), Fr h₀ L h' m → (∀ p ∈ news, p.1 < D) → News h₀ L h' ((D, { cls := .type "tuple", data := .seq #[.int (ldR xs) t0, .int (ldG xs) t1, .int (ldB xs) t2] }) :: news) → Q (.ref D) { s with heap := h', toks := tk' }):
      wpAny (model PySem.Challenge.rw_to0001_01.row.prog w) (ktrTop dp un gd cn cs L a ccd cl outer) (call (.ref 135) [.ref ls]) Q E s := by
  revert KX; k_fill; intro KX
  refine wpAny_call ?_
  k_dflt cell_enter
  (rename Fr _ _ _ _ => F1)
  have F2 : Fr _ _ _ (fun z => List.lookup z [(Str.ofString "script", Value.ref ls)]) := F1
  clear F1
  refine toks_any ?_; intro tk0
  have hLg := Fr.lst (by assumption : Fr h₀ L _ m) hL
  repeat' ((fail_if_success (with_reducible show wpAny _ _ (pyIter _) _ _ _)); (fail_if_success (with_reducible show InvEndN _ _ _ _ _ _ _)); (first | (k_unfold; (try dsimp only)) | (k_end; wrow_close) | walk1 | (dsimp only; walk1) | (leave1; walk_say "STEP leave1"; try dsimp only) | fail "no step"))
  (rename News h₀ L _ _ => kN0)
  have kN := drop2 kN0
  refine hret _ _ _ _ _ _ (by assumption) ?_ kN
  intro p hp
  exact allLt_mem (by assumption : _ ∧ _ ∧ AllLt _ news).2.2 p hp

end
end Mine
end
section
open PySem PySem.W PySem.Calls PyProof.Rows
set_option Elab.async false
set_option maxRecDepth 100000
set_option maxHeartbeats 4000000
namespace Mine
local macro_rules | `(tactic| k_room) => `(tactic| ((try simp only [depth_under_make, depth_under_kw, depth_in1, depth_deeper, depth_caller]); (try simp only [recursionLimit] at *); (try dsimp only); omega))
local macro_rules | `(tactic| walk_at "call builtin:max") => `(tactic| (k_here; (with_reducible show wpAny _ _ (call _ [Value.float _ _, Value.float _ _, Value.float _ _]) _ _ _); k_dflt (refine' max3f ?k0 ?k1 ?k2 ?_; (case k0 => exact rfl); (case k1 => k_asm); (case k2 => k_asm)); intro h' tk' v' F' N'))
local macro_rules | `(tactic| walk_at "call builtin:max") => `(tactic| (k_here; (with_reducible show wpAny _ _ (call _ [Value.int _ _, Value.int _ _, Value.int _ _]) _ _ _); k_dflt (refine' max3i ?k0 ?k1 ?k2 ?_; (case k0 => exact rfl); (case k1 => k_asm); (case k2 => k_asm)); intro h' tk' v' M' hM' F' N'))
local macro_rules | `(tactic| walk_at "call builtin:min") => `(tactic| (k_here; (with_reducible show wpAny _ _ (call _ [Value.float _ _, Value.float _ _, Value.float _ _]) _ _ _); k_dflt (refine' min3f ?k0 ?k1 ?k2 ?_; (case k0 => exact rfl); (case k1 => k_asm); (case k2 => k_asm)); intro h' tk' v' F' N'))
local macro_rules | `(tactic| walk_at "call builtin:min") => `(tactic| (k_here; (with_reducible show wpAny _ _ (call _ [Value.int _ _, Value.int _ _, Value.int _ _]) _ _ _); k_dflt (refine' min3i ?k0 ?k1 ?k2 ?_; (case k0 => exact rfl); (case k1 => k_asm); (case k2 => k_asm)); intro h' tk' v' M' hM' F' N'))
local macro_rules | `(tactic| walk_at "call ref") => `(tactic| (k_here; (with_reducible show wpAny _ _ (call (Value.ref _) [Value.float _ _, Value.float _ _, Value.float _ _]) _ _ _); k_dflt (refine' hsv_spec ?B ?F ?X ?N ?T ?c ?d ?u ?o ?r; (case B => k_asm); (case F => k_asm); (case X => k_asm); (case N => k_asm); (case T => k_asm); (case c => first | exact rfl | assumption); (case d => (try simp only [depth_deeper]); omega); (case u => (try simp only [units_deeper]); omega); (case o => exact chk_hsv (by assumption))); intro l' h' tk' H' f2' f3' x1' x2' x3' hH' F' N' l1))
local macro_rules | `(tactic| walk_at "call ref") => `(tactic| (k_here; (with_reducible show wpAny _ _ (call (Value.ref 156) [Value.int _ _, Value.int _ _, Value.int _ _]) _ _ _); k_dflt (refine' within_spec ?B ?F ?X ?N ?T ?c ?d ?u ?a1 ?a2 ?a3 ?a4 ?a5 ?a6 ?r; (case B => k_asm); (case F => k_asm); (case X => k_asm); (case N => k_asm); (case T => k_asm); (case c => first | exact rfl | assumption); (case d => ((try simp only [depth_deeper]); omega)); (case u => ((try simp only [units_deeper]); omega)); (case a1 => omega); (case a2 => omega); (case a3 => omega); (case a4 => omega); (case a5 => omega); (case a6 => omega)); intro h' tk' F' N'))
local macro_rules | `(tactic| walk_at "subscriptTail") => `(tactic| (k_here; (with_reducible show wpAny _ _ (subscriptTail _ _ (Value.ref _) (Value.int _ _)) _ _ _); k_dflt (refine' item_news ?N ?m ?a ?b ?x ?_ ?s; (case N => k_asm); (case m => k_mem); (case a => decide); (case b => decide); (case x => rfl); (case s => with_unfolding_all rfl); k_whole)))
local macro_rules | `(tactic| walk_at "subscriptTail Name Constant ref int") => `(tactic| (k_here; (with_reducible show wpAny _ _ (subscriptTail _ _ (Value.ref _) (Value.int _ _)) _ _ _); k_dflt (refine' item_news ?N ?m ?a ?b ?x ?_ ?s; (case N => k_asm); (case m => k_mem); (case a => decide); (case b => decide); (case x => rfl); (case s => with_unfolding_all rfl); k_whole)))
local macro_rules | `(tactic| walk_at "compareOp Eq ref ref") => `(tactic| (k_here; (with_reducible show wpAny _ _ (compareOp CmpOp.Eq (Value.ref _) (Value.ref _)) _ _ _); k_dflt (refine' eq_tup3 ?N ?a ?b ?u ?_; (case N => k_asm); (case a => k_mem); (case b => k_mem); (case u => ((try simp only [units_deeper]); omega)); k_whole)))
local macro_rules | `(tactic| walk_at "subscriptTail Name Subscript ref int") => `(tactic| (k_here; (with_reducible show wpAny _ _ (subscriptTail _ _ (Value.ref _) (Value.int _ _)) _ _ _); k_dflt (refine' item_fact ?N ?m ?i ?a ?b ?_ ?s; (case N => k_asm); (case m => k_mem); (case i => assumption); (case a => omega); (case b => omega); (case s => with_unfolding_all rfl)); intro tI))
local macro_rules | `(tactic| walk_at "subscriptTail") => `(tactic| (k_here; (with_reducible show wpAny _ _ (subscriptTail _ _ (Value.ref _) (Value.int _ _)) _ _ _); k_dflt (refine' item_fact ?N ?m ?i ?a ?b ?_ ?s; (case N => k_asm); (case m => k_mem); (case i => assumption); (case a => omega); (case b => omega); (case s => with_unfolding_all rfl)); intro tI))
local macro_rules | `(tactic| walk_at "subscriptTail Name UnaryOp ref int") => `(tactic| (k_here; (with_reducible show wpAny _ _ (subscriptTail _ _ (Value.ref _) (Value.int _ _)) _ _ _); k_dflt (refine' item_last ?N ?m ?i ?a ?_ ?s; (case N => k_asm); (case m => k_mem); (case i => assumption); (case a => omega); (case s => with_unfolding_all rfl)); intro tI))
local macro_rules | `(tactic| walk_at "binaryOp Mult int int") => `(tactic| (k_here; (with_reducible show wpAny _ _ (binaryOp _ (Value.int _ _) (Value.int (fct _) _)) _ _ _); k_dflt (refine' mul_fct ?_)))
local macro_rules | `(tactic| walk_at "binaryOp FloorDiv int int") => `(tactic| (k_here; (with_reducible show wpAny _ _ (binaryOp _ (Value.int (fct _) _) (Value.int (_ * _) _)) _ _ _); k_dflt (refine' div_fct ?a ?b ?c ?d ?e ?f ?_; (case a => omega); (case b => omega); (case c => omega); (case d => omega); (case e => omega); (case f => omega))))
local macro_rules | `(tactic| walk_at "subscriptTail Name Name ref int") => `(tactic| (k_here; (with_reducible show wpAny _ _ (subscriptTail _ _ (Value.ref _) (Value.int _ _)) _ _ _); k_dflt (refine' item_pick ?N ?m ?a ?b ?_ ?s; (case N => k_asm); (case m => k_mem); (case a => omega); (case b => omega); (case s => with_unfolding_all rfl)); intro tI))
local macro_rules | `(tactic| walk_at "subscriptTail Name BinOp ref int") => `(tactic| (k_here; (with_reducible show wpAny _ _ (subscriptTail _ _ (Value.ref _) (Value.int _ _)) _ _ _); k_dflt (refine' item_pick ?N ?m ?a ?b ?_ ?s; (case N => k_asm); (case m => k_mem); (case a => omega); (case b => omega); (case s => with_unfolding_all rfl)); intro tI))
section
variable {w : World} {mean : ExcName → Option Value} {mg mb : Str → Option Value} {dp un : Nat} {gd : Option (List Code)} {cn : Str} {cs : Scope} {a : Addr} {ccd : Value} {cl : List (Str × Addr)} {outer : List Env} {A₀ : Around} {base h₀ : Heap} {L : Addr} {m : Str → Option Value} {s : Shared} {Q E : Value → Shared → Prop} {news : List (Addr × Obj)}

theorem signed_spec {lg lf ls : Addr} {nf : Nat} {og : Obj} {s0 s1 s2 f0 f1 f2 : Int} {tS0 tS1 tS2 tF0 tF1 tF2 t8 : Tok} (B : Below A₀ base outer h₀) (F : Fr h₀ L s.heap m) (KX : (K w.params).In h₀)
    (N : News h₀ L s.heap [(lg, og), (lf, listOf #[.int f0 tF0, .int f1 tF1, .int f2 tF2] nf), (ls, { cls := .type "tuple", data := .seq #[.int s0 tS0, .int s1 tS1, .int s2 tS2] })])
    (T : Top q (looseW q loose) mean mg mb h₀) (hcs : cs.kind = .function) (hd : dp + 12 < recursionLimit) (hu : un + 120 < cLine)
    (o1 : ls < lf) (o2 : lf < lg) (a1 : 2 ≤ s0) (a2 : 1 ≤ s1) (a3 : 0 ≤ s2) (hsum : f0 + f1 + f2 = s0 + s1 + s2 + 8) (c1 : s0 ≤ 5) (c2 : s1 ≤ 3) (c3 : s2 ≤ 1) (b1 : s0 ≤ f0) (b2 : s1 ≤ f1) (b3 : s2 ≤ f2) 
    (hret : ∀ (t : Tok) (h' : Heap) (tk' : Nat), Fr h₀ L h' m → News h₀ L h' [(lg, og), (lf, listOf #[.int f0 tF0, .int f1 tF1, .int f2 tF2] nf), (ls, { cls := .type "tuple", data := .seq #[.int s0 tS0, .int s1 tS1, .int s2 tS2] })] →
      Q (.int (signed s0 s1 s2 f0 f1 f2) t) { s with heap := h', toks := tk' }) :
      wpAny (model PySem.Challenge.rw_to0001_01.row.prog w) (ktrTop dp un gd cn cs L a ccd cl outer) (call (.ref 170) [.ref ls, .ref lf, .int 8 t8]) Q E s := by
  revert KX; k_fill; intro KX
  refine wpAny_call ?_
  k_dflt cell_enter
  (rename Fr _ _ _ _ => F1)
  have F2 : Fr _ _ _ (fun y => List.lookup y [(Str.ofString "total", Value.int 8 t8), (Str.ofString "finish", Value.ref lf), (Str.ofString "start", Value.ref ls)]) := F1
  clear F1
  refine toks_any ?_; intro tk0
  repeat' ((fail_if_success (with_reducible show wpAny _ _ (pyIter _) _ _ _)); (fail_if_success (with_reducible show InvEndN _ _ _ _ _ _ _)); (first | (k_unfold; (try dsimp only)) | (k_end; wrow_close) | walk1 | (dsimp only; walk1) | (leave1; walk_say "STEP leave1"; try dsimp only) | fail "no step"))
  (rename Fr _ _ _ _ => lF); (rename News _ _ _ _ => lN); (rename IsRange _ _ _ _ _ _ _ _ => rgX)
  refine kst_range (σ := List Value × Nat) (fun c => (_, W.listOf c.1.toArray c.2) :: (lg, og) :: (lf, W.listOf #[Value.int f0 tF0, Value.int f1 tF1, Value.int f2 tF2] nf) :: (ls, { cls := .type "tuple", data := .seq #[.int s0 tS0, .int s1 tS1, .int s2 tS2] }) ::  []) (fun _ => []) (fun _ => True) [] (fun pre c => IntsAre c.1 (fact9.take (pre.length + 1)) ∧ c.1.length ≤ pre.length + 1) ([_], _) rfl rgX (by decide) (n := 8) (by decide) lF lN trivial (fun p hp => nomatch hp) ⟨.cons _ _ .nil, Nat.le_refl _⟩ ?turn ?done
  case turn =>
    clear lF lN rgX
    rintro ⟨ps, np⟩ pre k t u h tk own hk hlt hoff - ⟨hI, hl⟩ lF lN
    have kMk := kstMark
    dsimp only [kstB] at hI hl lF lN
    simp only [List.cons_append, List.nil_append] at lN
    subst hk
    (try dsimp only)
    (try k_fold)
    repeat' ((fail_if_success (with_reducible show wpAny _ _ (pyIter _) _ _ _)); (fail_if_success (with_reducible show InvEndN _ _ _ _ _ _ _)); (first | (k_unfold; (try dsimp only)) | (k_end; wrow_close) | walk1 | (dsimp only; walk1) | (leave1; walk_say "STEP leave1"; try dsimp only) | fail "no step"))
    (rename Fr _ _ _ _ => eF); (rename News _ _ _ _ => eN)
    simp only [List.push_toArray] at eN
    obtain ⟨v, ⟨tv, hv⟩, eN⟩ : ∃ v, (∃ tv, v = Value.int (fct (pre.length : Nat) * (1 + (pre.length : Int))) tv) ∧ News _ _ _ ((_, W.listOf (ps ++ [v]).toArray (np + 1)) :: (lg, og) :: (lf, W.listOf #[Value.int f0 tF0, Value.int f1 tF1, Value.int f2 tF2] nf) :: (ls, { cls := .type "tuple", data := .seq #[.int s0 tS0, .int s1 tS1, .int s2 tS2] }) ::  own) := ⟨_, ⟨_, rfl⟩, eN⟩
    subst hv
    refine kst_end (ps ++ [Value.int (fct (pre.length : Nat) * (1 + (pre.length : Int))) tv], np + 1) eF eN ?hn ?ho (by rfl) trivial (fun p hp => nomatch hp) ?hr ⟨?h1, ?h2⟩
    case hn => (intro p hp; simp only [List.mem_cons, List.not_mem_nil, or_false] at hp ⊢; rcases hp with h | h | h | h <;> simp [h])
    case ho => exact fun p hp => .tail _ (.tail _ (.tail _ (.tail _ hp)))
    case hr => (intro z e1 _ e3; simp [e1])
    case h1 => (rw [List.length_append, List.length_singleton]; exact ints_next hI (by omega) _)
    case h2 => (dsimp only; rw [List.length_append, List.length_append, List.length_singleton, List.length_singleton]; omega)
  case done =>
    clear lF lN rgX
    rintro ⟨ps, np⟩ u h tk - ⟨hI, hl⟩ lF lN
    dsimp only [kstB] at hI hl lF lN
    rw [rangeKs_length] at hI hl
    replace hI : IntsAre ps fact9 := hI
    repeat' ((fail_if_success (with_reducible show wpAny _ _ (pyIter _) _ _ _)); (fail_if_success (with_reducible show InvEndN _ _ _ _ _ _ _)); (first | (k_unfold; (try dsimp only)) | (k_end; wrow_close) | walk1 | (dsimp only; walk1) | (leave1; walk_say "STEP leave1"; try dsimp only) | fail "no step"))
    (rename Fr _ _ _ _ => lF); (rename News _ _ _ _ => lN); (rename IsRange _ _ _ _ _ _ _ _ => rgX)
    refine kst_range (σ := Int × Tok) (fun _ => (_, W.listOf ps.toArray _) :: (lg, og) :: (lf, W.listOf #[Value.int f0 tF0, Value.int f1 tF1, Value.int f2 tF2] nf) :: (ls, { cls := .type "tuple", data := .seq #[.int s0 tS0, .int s1 tS1, .int s2 tS2] }) ::  []) (fun c => [(Str.ofString "told", Value.int c.1 c.2)]) (fun _ => True) [Str.ofString "j", Str.ofString "steps", Str.ofString "fixed", Str.ofString "orders"] (fun pre c => c.1 = pre.foldl (sI s0 s1 s2 f0 f1 f2) 0) (0, _) rfl rgX (by decide) (n := 3) (by decide) lF lN trivial (fun p hp => by rcases List.mem_cons.mp hp with rfl | hp; rfl; cases hp) rfl ?turn ?done
    case done =>
      clear lF lN rgX
      rintro ⟨c1, tc1⟩ u1 h1 tk1 - hc1 lF lN
      dsimp only [kstB] at hc1 lF lN
      rw [show (rangeKs 0 3).foldl (sI s0 s1 s2 f0 f1 f2) 0 = signed s0 s1 s2 f0 f1 f2 from rfl] at hc1
      subst hc1
      repeat' ((fail_if_success (with_reducible show wpAny _ _ (pyIter _) _ _ _)); (fail_if_success (with_reducible show InvEndN _ _ _ _ _ _ _)); (first | (k_unfold; (try dsimp only)) | (k_end; wrow_close) | walk1 | (dsimp only; walk1) | (leave1; walk_say "STEP leave1"; try dsimp only) | fail "no step"))
      (rename Fr h₀ _ _ _ => eF); (rename News h₀ _ _ _ => eN)
      exact hret _ _ _ eF (cb_drop eN fun p hp => List.Mem.tail _ hp)
    case turn =>
      clear lF lN rgX
      rintro ⟨c0, tc⟩ pre k t u h tk own hk hlt hoff - hc lF lN
      have kMk := kstMark
      dsimp only [kstB] at hc lF lN
      simp only [List.cons_append, List.nil_append] at lN
      (try dsimp only)
      (try k_fold)
      repeat' ((fail_if_success (with_reducible show wpAny _ _ (pyIter _) _ _ _)); (fail_if_success (with_reducible show InvEndN _ _ _ _ _ _ _)); (first | (k_unfold; (try dsimp only)) | (k_end; wrow_close) | walk1 | (dsimp only; walk1) | (leave1; walk_say "STEP leave1"; try dsimp only) | fail "no step"))
      (rename Fr _ _ _ _ => lF); (rename News _ _ _ _ => lN); (rename IsRange _ _ _ _ _ _ _ _ => rgX)
      refine kst_range (σ := Int × Tok) (fun _ => (_, W.listOf ps.toArray _) :: (lg, og) :: (lf, W.listOf #[Value.int f0 tF0, Value.int f1 tF1, Value.int f2 tF2] nf) :: (ls, { cls := .type "tuple", data := .seq #[.int s0 tS0, .int s1 tS1, .int s2 tS2] }) ::  own) (fun c => [(Str.ofString "told", Value.int c.1 c.2)]) (fun _ => True) [Str.ofString "steps", Str.ofString "fixed", Str.ofString "orders"] (fun pre c => c.1 = pre.foldl (sJ s0 s1 s2 f0 f1 f2 k) c0) (c0, _) rfl rgX (by decide) (n := 3) (by decide) lF lN trivial (fun p hp => by rcases List.mem_cons.mp hp with rfl | hp; rfl; cases hp) rfl ?turn ?done
      case done =>
        clear lF lN rgX
        rintro ⟨c2, tc2⟩ u2 h2 tk2 - hc2 lF lN
        dsimp only [kstB] at hc2 lF lN
        repeat' ((fail_if_success (with_reducible show wpAny _ _ (pyIter _) _ _ _)); (fail_if_success (with_reducible show InvEndN _ _ _ _ _ _ _)); (first | (k_unfold; (try dsimp only)) | (k_end; wrow_close) | walk1 | (dsimp only; walk1) | (leave1; walk_say "STEP leave1"; try dsimp only) | fail "no step"))
        refine kst_end (c2, tc2) lF lN ?hn ?ho (by rfl) trivial (fun p hp => by rcases List.mem_cons.mp hp with rfl | hp; rfl; cases hp) ?hr ?h1
        case hn => (intro p hp; simp only [List.mem_cons, List.not_mem_nil, or_false] at hp ⊢; rcases hp with h | h | h | h <;> simp [h])
        case ho => exact fun p hp => .tail _ (.tail _ (.tail _ (.tail _ hp)))
        case hr => (intro z e1 e2 e3; have e4 : z ≠ Str.ofString "told" := e2 (Str.ofString "told", _) (.head _); simp at e3; simp [e1, e3, e4])
        case h1 => (rw [foldl_snoc, ← hc]; exact hc2)
      case turn =>
        clear lF lN rgX
        rintro ⟨c2, tc2⟩ pre2 k2 t2 u2 h2 tk2 own2 hk2 hlt2 hoff2 - hc2 lF lN
        have kMk := kstMark
        dsimp only [kstB] at hc2 lF lN
        simp only [List.cons_append, List.nil_append] at lN
        have hk0 : 0 ≤ k := by omega
        have hk3 : k < 3 := by omega
        have hj0 : 0 ≤ k2 := by omega
        have hj3 : k2 < 3 := by omega
        have hps : k ≠ k2 → pick3 s0 s1 s2 k + pick3 s0 s1 s2 k2 + pick3 s0 s1 s2 (3 - k - k2) = s0 + s1 + s2 := pick_sum hk0 hk3 hj0 hj3
        clear hk hk2 hlt hlt2
        all_goals ((try dsimp only); (try k_fold))
        all_goals (repeat' ((fail_if_success (with_reducible show wpAny _ _ (pyIter _) _ _ _)); (fail_if_success (with_reducible show InvEndN _ _ _ _ _ _ _)); (first | (k_unfold; (try dsimp only)) | (k_end; wrow_close) | walk1 | (dsimp only; walk1) | (leave1; walk_say "STEP leave1"; try dsimp only) | fail "no step")))
        all_goals ((rename News _ _ _ _ => eN); (rename Fr _ _ _ _ => eF))
        all_goals refine kst_end (_, _) eF eN ?_ ?_ (by rfl) trivial (fun p hp => by rcases List.mem_cons.mp hp with rfl | hp; rfl; cases hp) ?_ ?_
        all_goals first
          | (rw [foldl_snoc, ← hc2]; first | exact sjE (by assumption) | exact sjN (by assumption) (by omega) | exact sjT (by assumption) (by omega) (by assumption) | exact sjF (by assumption) (by omega) (by assumption))
          | (intro z e1 e2 e3; have e4 : z ≠ Str.ofString "told" := e2 (Str.ofString "told", _) (.head _); simp at e3; simp [e1, e3, e4]; done)
          | (intro p hp; simp only [List.mem_cons, List.mem_append] at hp ⊢; rcases hp with h | h | h | h | h <;> simp [h]; done)
          | (intro p hp; simp only [List.mem_cons, List.mem_append]; simp [hp]; done)
end
end Mine
end
section
open PySem PySem.W PySem.Calls PyProof.Rows
set_option Elab.async false
set_option maxRecDepth 100000
set_option maxHeartbeats 8000000
namespace Mine
local macro_rules | `(tactic| k_room) => `(tactic| ((try simp only [depth_under_make, depth_under_kw, depth_in1, depth_deeper, depth_caller]); (try simp only [recursionLimit] at *); (try dsimp only); omega))
local macro_rules | `(tactic| walk_at "call builtin:max") => `(tactic| (k_here; (with_reducible show wpAny _ _ (call _ [Value.float _ _, Value.float _ _, Value.float _ _]) _ _ _); k_dflt (refine' max3f ?k0 ?k1 ?k2 ?_; (case k0 => exact rfl); (case k1 => k_asm); (case k2 => k_asm)); intro h' tk' v' F' N'))
local macro_rules | `(tactic| walk_at "call builtin:max") => `(tactic| (k_here; (with_reducible show wpAny _ _ (call _ [Value.int _ _, Value.int _ _, Value.int _ _]) _ _ _); k_dflt (refine' max3i ?k0 ?k1 ?k2 ?_; (case k0 => exact rfl); (case k1 => k_asm); (case k2 => k_asm)); intro h' tk' v' M' hM' F' N'))
local macro_rules | `(tactic| walk_at "call builtin:min") => `(tactic| (k_here; (with_reducible show wpAny _ _ (call _ [Value.float _ _, Value.float _ _, Value.float _ _]) _ _ _); k_dflt (refine' min3f ?k0 ?k1 ?k2 ?_; (case k0 => exact rfl); (case k1 => k_asm); (case k2 => k_asm)); intro h' tk' v' F' N'))
local macro_rules | `(tactic| walk_at "call builtin:min") => `(tactic| (k_here; (with_reducible show wpAny _ _ (call _ [Value.int _ _, Value.int _ _, Value.int _ _]) _ _ _); k_dflt (refine' min3i ?k0 ?k1 ?k2 ?_; (case k0 => exact rfl); (case k1 => k_asm); (case k2 => k_asm)); intro h' tk' v' M' hM' F' N'))
section
variable {w : World} {mean : ExcName → Option Value} {mg mb : Str → Option Value} {dp un : Nat} {gd : Option (List Code)} {cn : Str} {cs : Scope} {a : Addr} {ccd : Value} {cl : List (Str × Addr)} {outer : List Env} {A₀ : Around} {base h₀ : Heap} {L : Addr} {m : Str → Option Value} {s : Shared} {Q E : Value → Shared → Prop} {news : List (Addr × Obj)}

theorem drop4 {h₀ h : Heap} {L : Addr} {a b c d e : Addr × Obj} {news : List (Addr × Obj)} (N : News h₀ L h (a :: b :: c :: d :: e :: news)) : News h₀ L h (a :: news) := cb_drop N fun p hp => by
  rcases List.mem_cons.mp hp with rfl | hp
  · exact .head _
  · exact .tail _ (.tail _ (.tail _ (.tail _ (.tail _ hp))))
def votes (xs : List Int) : List Int := (((xs.drop 1).take 8).map fun a => a.fmod 1000000) ++ [1440, 1, 3, 2, 0, 4, 6, 4609].drop ((xs.drop 1).take 8).length
theorem votes_eq (xs : List Int) : List.map (fun a => a.fmod (10 ^ Int.toNat 6)) (List.filter (fun _ => true) (List.take (min 9 xs.length - 1) (List.drop 1 xs))) ++ List.drop (((List.take (min 9 xs.length - 1) (List.drop 1 xs)).length : Int)).toNat [1440, 1, 3, 2, 0, 4, 6, 4609] = votes xs := by
  have e : List.take (min 9 xs.length - 1) (List.drop 1 xs) = List.take 8 (List.drop 1 xs) := by
    rw [List.take_eq_take_iff, List.length_drop]; omega
  rw [e, List.filter_eq_self.mpr (fun _ _ => rfl)]
  rfl
theorem votes_spec {ls : Addr} {vs : List Value} {xs : List Int} (hL : h₀.IsList ls vs.toArray) (hvs : IntsAre vs xs) (hlen : xs.length ≤ 63) (B : Below A₀ base outer h₀) (F : Fr h₀ L s.heap m) (KX : (K w.params).In h₀) (N : News h₀ L s.heap news) (T : Top q (looseW q loose) mean mg mb h₀) (hcs : cs.kind = .function) (hd : dp + 8 < recursionLimit) (hu : un + 60 < cLine) 
    (hret : ∀ (D : Addr) (ws : List Value) (n : Nat) (h' : Heap) (tk' : Nat), Fr h₀ L h' m → (∀ p ∈ news, p.1 < D) → IntsAre ws (votes xs) → News h₀ L h' ((D, W.listOf ws.toArray n) :: news) → Q (.ref D) { s with heap := h', toks := tk' }):
      wpAny (model PySem.Challenge.rw_to0001_01.row.prog w) (ktrTop dp un gd cn cs L a ccd cl outer) (call (.ref 128) [.ref ls]) Q E s := by
  revert KX; k_fill; intro KX
  refine wpAny_call ?_
  k_dflt cell_enter
  (rename Fr _ _ _ _ => F1)
  have F2 : Fr _ _ _ (fun z => List.lookup z [(Str.ofString "script", Value.ref ls)]) := F1
  clear F1
  refine toks_any ?_; intro tk0
  have hLg := Fr.lst (by assumption : Fr h₀ L _ m) hL
  repeat' ((fail_if_success (with_reducible show wpAny _ _ (pyIter _) _ _ _)); (fail_if_success (with_reducible show InvEndN _ _ _ _ _ _ _)); (first | (k_unfold; (try dsimp only)) | (k_end; wrow_close) | walk1 | (dsimp only; walk1) | (leave1; walk_say "STEP leave1"; try dsimp only) | fail "no step"))
  have hI8 : ∀ tk : Nat, IntsAre [Value.int 1440 (tk), Value.int 1 (tk + 1), Value.int 3 (tk + 1 + 1), Value.int 2 (tk + 1 + 1 + 1), Value.int 0 (tk + 1 + 1 + 1 + 1), Value.int 4 (tk + 1 + 1 + 1 + 1 + 1), Value.int 6 (tk + 1 + 1 + 1 + 1 + 1 + 1), Value.int 4609 (tk + 1 + 1 + 1 + 1 + 1 + 1 + 1)] [1440, 1, 3, 2, 0, 4, 6, 4609] := fun _ => .cons _ _ (.cons _ _ (.cons _ _ (.cons _ _ (.cons _ _ (.cons _ _ (.cons _ _ (.cons _ _ (.nil))))))))
  repeat' ((fail_if_success (with_reducible show wpAny _ _ (subscriptTail _ _ _ _) _ _ _)); (fail_if_success (with_reducible show InvEndN _ _ _ _ _ _ _)); (first | (k_unfold; (try dsimp only)) | (k_end; wrow_close) | walk1 | (dsimp only; walk1) | (leave1; walk_say "STEP leave1"; try dsimp only) | fail "no step"))
  k_dflt (refine' kmk_slice_ints (ns := [1440, 1, 3, 2, 0, 4, 6, 4609]) ?F15 ?N15 ?l15 ?p15 ?q15 ?i15 ?m15 rfl ?r15 ?s15 ?t15 ?z15)
  case F15 => k_asm
  case N15 => k_asm
  case l15 => kmk_list
  case p15 => kmk_part
  case q15 => kmk_part
  case i15 => exact hI8 _
  case m15 => exact kmk_from (hI8 _) (Int.natCast_nonneg _)
  case s15 => with_unfolding_all rfl
  case t15 => kmk_pure
  case z15 => exact Nat.le_of_ble_eq_true rfl
  intro D2 ws2 h2 F2' N2' l2 hI2 hC2 hL2
  (try k_lt l2)
  k_dflt (refine' kmk_add_ints ?F16 ?N16 ?a16 ?b16 ?i16 hI2 ?r16 ?z16)
  case F16 => k_asm
  case N16 => k_asm
  case a16 => kmk_list
  case b16 => kmk_list
  case i16 => l_ints
  case z16 =>
    simp only [List.length_map, sizeLine_eq]
    have za := List.length_filter_le (fun _ : Int => true) (List.take (min 9 xs.length - 1) (List.drop 1 xs))
    have zb : (List.take (min 9 xs.length - 1) (List.drop 1 xs)).length ≤ min 9 xs.length - 1 := List.length_take_le ..
    simp only [List.length_cons, List.length_nil] at hL2
    omega
  intro D3 ws3 h3 F3' N3' l3 hI3
  (try k_lt l3)
  repeat' ((fail_if_success (with_reducible show wpAny _ _ (pyIter _) _ _ _)); (fail_if_success (with_reducible show InvEndN _ _ _ _ _ _ _)); (first | (k_unfold; (try dsimp only)) | (k_end; wrow_close) | walk1 | (dsimp only; walk1) | (leave1; walk_say "STEP leave1"; try dsimp only) | fail "no step"))
  (rename News h₀ L _ _ => kN0)
  have kN := drop4 kN0
  rw [votes_eq] at hI3
  refine hret _ _ _ _ _ (by assumption) ?_ hI3 kN
  intro p hp
  exact allLt_mem (by assumption : _ ∧ _ ∧ _ ∧ _ ∧ AllLt D3 news).2.2.2.2 p hp

end
end Mine
end
section
open PySem PySem.W PySem.Calls PyProof.Rows
set_option Elab.async false
set_option maxRecDepth 100000
namespace Mine
theorem txt_app (a b : List Int) : KStt.txt (a ++ b) = KStt.txt a ++ KStt.txt b := by
  refine PySem.Str.ext' (Array.toList_inj.mp ?_)
  rw [PySem.Str.cps_append, Array.toList_append]
  show ((a ++ b).map Int.toNat) = a.map Int.toNat ++ b.map Int.toNat
  exact List.map_append ..
theorem str_nil_app (x : Str) : x ++ Str.ofString "" = x := by
  refine PySem.Str.ext' (Array.toList_inj.mp ?_)
  rw [PySem.Str.cps_append, Array.toList_append]
  show x.cps.toList ++ [] = x.cps.toList
  exact List.append_nil _
theorem join_txt (f : Int → List Int) : ∀ l : List Int, Str.join (Str.ofString "") (l.map fun k => KStt.txt (f k)) = KStt.txt (l.flatMap f)
  | [] => rfl
  | [a] => by
    show KStt.txt (f a) = KStt.txt (f a ++ [])
    rw [List.append_nil]
  | a :: b :: r => by
    have ih := join_txt f (b :: r)
    show KStt.txt (f a) ++ Str.ofString "" ++ Str.join (Str.ofString "") ((b :: r).map fun k => KStt.txt (f k)) = KStt.txt (f a ++ (b :: r).flatMap f)
    rw [ih, txt_app, str_nil_app]
theorem txt_join (f : Int → List Int) (l : List Int) : PySem.Txt.join (Str.ofString "") (l.map fun k => KStt.txt (f k)) = KStt.txt (l.flatMap f) := by
  rw [← join_txt]
  exact StrLaws.glued_eq_join ..
theorem codes_txt {l : List Int} (h : ∀ a ∈ l, 0 ≤ a) : KStt.codes (KStt.txt l) = l := by
  show (l.map Int.toNat).map (fun (c : Nat) => (c : Int)) = l
  rw [List.map_map]
  refine (List.map_congr_left (g := _root_.id) fun a ha => ?_).trans (List.map_id _)
  exact Int.toNat_of_nonneg (h a ha)
/-- the letter that a vote stands for -/
def mk (v : Int) : Int := if v.fmod 3 = 0 then 114 else if v.fmod 3 = 1 then 103 else 98
theorem mods (a : Int) (n : Int) (hn : 0 < n) : ∃ j : Nat, (j : Int) < n ∧ a.fmod n = (j : Int) :=
  ⟨(a.fmod n).toNat, by have := Int.fmod_lt_of_pos a hn; have := Int.fmod_nonneg_of_pos a hn; omega, by have := Int.fmod_nonneg_of_pos a hn; omega⟩
theorem rdA (acc : List Int) (v : Int) : (spA v).foldl rdS acc = acc := by
  unfold spA
  obtain ⟨j, hj, e⟩ := mods (v.fdiv 288) 17 (by decide)
  rw [e]
  have key : ∀ j : Fin 17, (j : Nat) ≠ 0 → b1L.contains (65023 + ((j : Nat) : Int)) = true := by decide +kernel
  split
  · rfl
  · have hb := key ⟨j, by omega⟩ (by intro h; rename_i hh; exact hh (by simp at h; omega))
    simp only [List.foldl_cons, List.foldl_nil, rdS]
    rw [if_pos hb]
theorem rdB (acc : List Int) (v : Int) : rdS acc (spB v) = acc ++ [mk v] := by
  unfold spB mk
  split
  · obtain ⟨j, hj, e⟩ := mods (v.fdiv 3) 5 (by decide)
    rw [e]
    have key : ∀ j : Fin 5, b1L.contains (65529 + ((j : Nat) : Int)) = false ∧ rdC (65529 + ((j : Nat) : Int)) = 114 := by decide +kernel
    obtain ⟨k1, k2⟩ := key ⟨j, by omega⟩
    unfold rdS
    rw [if_neg (by simpa using k1), k2]
  · split
    · obtain ⟨j, hj, e⟩ := mods (v.fdiv 3) 12 (by decide)
      rw [e]
      have key : ∀ j : Fin 12, b1L.contains (12272 + ((j : Nat) : Int)) = false ∧ rdC (12272 + ((j : Nat) : Int)) = 103 := by decide +kernel
      obtain ⟨k1, k2⟩ := key ⟨j, by omega⟩
      unfold rdS
      rw [if_neg (by simpa using k1), k2]
    · obtain ⟨j, hj, e⟩ := mods (v.fdiv 3) 96 (by decide)
      rw [e]
      have key : ∀ j : Fin 96, b1L.contains (917536 + ((j : Nat) : Int)) = false ∧ rdC (917536 + ((j : Nat) : Int)) = 98 := by decide +kernel
      obtain ⟨k1, k2⟩ := key ⟨j, by omega⟩
      unfold rdS
      rw [if_neg (by simpa using k1), k2]
theorem rd_all : ∀ (l : List Int) (acc : List Int), (l.flatMap spL).foldl rdS acc = acc ++ l.map mk
  | [], acc => (List.append_nil acc).symm
  | v :: r, acc => by
    rw [List.flatMap_cons, List.foldl_append, spL, List.foldl_append, rdA, List.foldl_cons, List.foldl_nil, rdB, rd_all r, List.map_cons, List.append_assoc]
    rfl
theorem spL_nonneg (v : Int) : ∀ a ∈ spL v, 0 ≤ a := by
  intro a ha
  unfold spL at ha
  rcases List.mem_append.mp ha with ha | ha
  · unfold spA at ha
    split at ha
    · cases ha
    · rw [List.mem_singleton.mp ha]
      have := Int.fmod_nonneg_of_pos (v.fdiv 288) (b := 17) (by decide)
      omega
  · rw [List.mem_singleton.mp ha]
    unfold spB
    have a1 := Int.fmod_nonneg_of_pos (v.fdiv 3) (b := 5) (by decide)
    have a2 := Int.fmod_nonneg_of_pos (v.fdiv 3) (b := 12) (by decide)
    have a3 := Int.fmod_nonneg_of_pos (v.fdiv 3) (b := 96) (by decide)
    split
    · omega
    · split <;> omega
theorem read_is (l : List Int) : (KStt.codes (PySem.Txt.join (Str.ofString "") (l.map fun k => KStt.txt (spL k)))).foldl rdS [] = l.map mk := by
  rw [txt_join, codes_txt, rd_all, List.nil_append]
  intro a ha
  obtain ⟨v, _, hv⟩ := List.mem_flatMap.mp ha
  exact spL_nonneg v a hv
theorem flat_len : ∀ l : List Int, (l.flatMap spL).length ≤ 2 * l.length
  | [] => by simp
  | v :: r => by
    have h1 := flat_len r
    have h2 : (spL v).length ≤ 2 := by
      unfold spL spA
      split <;> simp
    rw [List.flatMap_cons, List.length_append, List.length_cons]
    omega
theorem said_len (xs : List Int) : (PySem.Txt.join (Str.ofString "") ((votes xs).map fun k => KStt.txt (spL k))).length ≤ 32 := by
  rw [txt_join, KStt.txt_length]
  have h1 := flat_len (votes xs)
  have h2 : (votes xs).length ≤ 16 := by
    unfold votes
    rw [List.length_append, List.length_map, List.length_drop]
    have : ((xs.drop 1).take 8).length ≤ 8 := List.length_take_le ..
    simp only [List.length_cons, List.length_nil]
    omega
  omega
theorem mk_is (v : Int) : mk v = 114 ∨ mk v = 103 ∨ mk v = 98 := by
  unfold mk
  split
  · exact .inl rfl
  · split
    · exact .inr (.inl rfl)
    · exact .inr (.inr rfl)
theorem codes_marks (l : List Int) : KStt.codes (KStt.txt (l.map mk)) = l.map mk := by
  refine codes_txt fun a ha => ?_
  obtain ⟨v, _, hv⟩ := List.mem_map.mp ha
  have := mk_is v
  omega
theorem ascii_marks (l : List Int) : (KStt.txt (l.map mk)).cps.all (· < 128) = true := by
  show ((l.map mk).map Int.toNat).toArray.all (· < 128) = true
  rw [List.all_toArray, List.all_eq_true]
  intro a ha
  obtain ⟨b, hb, e⟩ := List.mem_map.mp ha
  obtain ⟨v, _, hv⟩ := List.mem_map.mp hb
  have := mk_is v
  exact decide_eq_true (by omega)
theorem cnt_shift (c : Nat) : ∀ (l : List Int) (a : Int), l.foldl (fun a x => if x = (c : Int) then a + 1 else a) a = a + cnt c l
  | [], a => by simp [cnt]
  | x :: r, a => by
    have h1 := cnt_shift c r
    unfold cnt at h1 ⊢
    rw [List.foldl_cons, List.foldl_cons, h1, h1 (if x = (c : Int) then 0 + 1 else 0)]
    split <;> omega
theorem cnt_cons (c : Nat) (x : Int) (r : List Int) : cnt c (x :: r) = (if x = (c : Int) then 1 else 0) + cnt c r := by
  have h := cnt_shift c r (if x = (c : Int) then 0 + 1 else 0)
  show List.foldl _ (if x = (c : Int) then 0 + 1 else 0) r = _
  rw [h]
  split <;> rfl
theorem cnt_sum : ∀ l : List Int, 0 ≤ cnt 114 (l.map mk) ∧ 0 ≤ cnt 103 (l.map mk) ∧ 0 ≤ cnt 98 (l.map mk) ∧ cnt 114 (l.map mk) + cnt 103 (l.map mk) + cnt 98 (l.map mk) = (l.length : Int)
  | [] => by simp [cnt]
  | v :: r => by
    have ih := cnt_sum r
    rw [List.map_cons, cnt_cons, cnt_cons, cnt_cons, List.length_cons]
    rcases mk_is v with h | h | h <;> rw [h] <;> simp <;> omega
end Mine
end
section
open PySem PySem.W PySem.Calls PyProof.Rows
set_option Elab.async false
set_option maxRecDepth 100000
namespace Mine
/-- the number of ways from a start to a goal, read off the walk's dict -/
def lkw (s0 s1 s2 g0 g1 g2 : Int) : Int := kdfLook (ways s0 s1 s2 (g0 + 1 - s0).toNat (g1 + 1 - s1).toNat (g2 + 1 - s2).toNat) (256 * g0 + 16 * g1 + g2) 0
def tabOk (s0 s1 s2 : Int) (t : List (Int × Int × Int × Int)) : Bool := t.all fun e => decide (lkw s0 s1 s2 e.1 e.2.1 e.2.2.1 = e.2.2.2)
def sigOne (s0 s1 s2 : Int) (t : List (Int × Int × Int × Int)) (f0 f1 f2 : Int) : Bool :=
  match t.find? fun e => decide (e.1 = max f0 (max f1 f2)) && decide (e.2.2.1 = min f0 (min f1 f2)) && decide (e.1 + e.2.1 + e.2.2.1 = f0 + f1 + f2) with
  | some e => decide (signed s0 s1 s2 f0 f1 f2 = rank f0 f1 f2 * e.2.2.2)
  | none => false
def sigOk (s0 s1 s2 : Int) (t : List (Int × Int × Int × Int)) : Bool := (List.range 9).all fun R => (List.range (9 - R)).all fun G => sigOne s0 s1 s2 t (s0 + ((R : Nat) : Int)) (s1 + ((G : Nat) : Int)) (s2 + ((8 - R - G : Nat) : Int))
theorem row_of {s0 s1 s2 : Int} {t : List (Int × Int × Int × Int)} (h1 : tabOk s0 s1 s2 t = true) (h2 : sigOk s0 s1 s2 t = true) {R G : Nat} (hs : R + G ≤ 8) {f0 f1 f2 g0 g1 g2 : Int} (e0 : f0 = s0 + (R : Int)) (e1 : f1 = s1 + (G : Int)) (e2 : f2 = s2 + ((8 - R - G : Nat) : Int))
    (m0 : max f0 (max f1 f2) = g0) (m2 : min f0 (min f1 f2) = g2) (m1 : g0 + g1 + g2 = f0 + f1 + f2) : signed s0 s1 s2 f0 f1 f2 = rank f0 f1 f2 * lkw s0 s1 s2 g0 g1 g2 := by
  unfold sigOk at h2
  have h3 := List.all_eq_true.mp (List.all_eq_true.mp h2 R (List.mem_range.mpr (by omega))) G (List.mem_range.mpr (by omega))
  rw [← e0, ← e1, ← e2] at h3
  unfold sigOne at h3
  split at h3
  · rename_i e he
    have hp := List.find?_some he
    have hm := List.mem_of_find?_eq_some he
    simp only [Bool.and_eq_true, decide_eq_true_eq] at hp
    have hv := of_decide_eq_true (List.all_eq_true.mp h1 e hm)
    obtain ⟨⟨p0, p2⟩, p1⟩ := hp
    have q0 : e.1 = g0 := by omega
    have q2 : e.2.2.1 = g2 := by omega
    have q1 : e.2.1 = g1 := by omega
    rw [q0, q1, q2] at hv
    rw [hv]
    exact of_decide_eq_true h3
  · cases h3
def tab0 : List (Int × Int × Int × Int) := [(8, 2, 1, 21), (7, 2, 2, 0), (6, 3, 2, 56), (5, 4, 2, 42), (9, 2, 0, 7), (7, 3, 1, 64), (5, 3, 3, 0), (4, 4, 3, 0), (8, 3, 0, 20), (6, 4, 1, 70), (7, 4, 0, 28), (5, 5, 1, 0), (6, 5, 0, 14), (9, 1, 1, 0), (10, 1, 0, 1)]
theorem tabOk0 : tabOk 2 1 0 tab0 = true := by decide +kernel
theorem sigOk0 : sigOk 2 1 0 tab0 = true := by decide +kernel
def tab1 : List (Int × Int × Int × Int) := [(9, 3, 2, 21), (8, 3, 3, 0), (7, 4, 3, 56), (6, 5, 3, 42), (10, 3, 1, 7), (8, 4, 2, 64), (6, 4, 4, 0), (5, 5, 4, 0), (9, 4, 1, 20), (7, 5, 2, 70), (8, 5, 1, 28), (6, 6, 2, 0), (7, 6, 1, 14), (10, 2, 2, 0), (11, 2, 1, 1)]
theorem tabOk1 : tabOk 3 2 1 tab1 = true := by decide +kernel
theorem sigOk1 : sigOk 3 2 1 tab1 = true := by decide +kernel
def tab2 : List (Int × Int × Int × Int) := [(8, 3, 2, 85), (7, 3, 3, 0), (6, 4, 3, 98), (5, 5, 3, 0), (9, 3, 1, 48), (10, 3, 0, 7), (7, 4, 2, 190), (5, 4, 4, 0), (8, 4, 1, 112), (9, 4, 0, 20), (6, 5, 2, 112), (7, 5, 1, 112), (8, 5, 0, 28), (6, 6, 1, 0), (7, 6, 0, 14), (9, 2, 2, 0), (10, 2, 1, 8), (11, 2, 0, 1)]
theorem tabOk2 : tabOk 3 2 0 tab2 = true := by decide +kernel
theorem sigOk2 : sigOk 3 2 0 tab2 = true := by decide +kernel
def tab3 : List (Int × Int × Int × Int) := [(9, 4, 3, 85), (8, 4, 4, 0), (7, 5, 4, 98), (6, 6, 4, 0), (10, 4, 2, 48), (11, 4, 1, 7), (8, 5, 3, 190), (6, 5, 5, 0), (9, 5, 2, 112), (10, 5, 1, 20), (7, 6, 3, 112), (8, 6, 2, 112), (9, 6, 1, 28), (7, 7, 2, 0), (8, 7, 1, 14), (10, 3, 3, 0), (11, 3, 2, 8), (12, 3, 1, 1)]
theorem tabOk3 : tabOk 4 3 1 tab3 = true := by decide +kernel
theorem sigOk3 : sigOk 4 3 1 tab3 = true := by decide +kernel
def tab4 : List (Int × Int × Int × Int) := [(8, 3, 1, 105), (7, 3, 2, 120), (6, 3, 3, 0), (5, 4, 3, 42), (9, 3, 0, 27), (7, 4, 1, 162), (6, 4, 2, 168), (4, 4, 4, 0), (8, 4, 0, 48), (6, 5, 1, 84), (5, 5, 2, 0), (7, 5, 0, 42), (6, 6, 0, 0), (8, 2, 2, 0), (9, 2, 1, 28), (10, 1, 1, 0), (10, 2, 0, 8), (11, 1, 0, 1)]
theorem tabOk4 : tabOk 3 1 0 tab4 = true := by decide +kernel
theorem sigOk4 : sigOk 3 1 0 tab4 = true := by decide +kernel
def tab5 : List (Int × Int × Int × Int) := [(9, 4, 2, 105), (8, 4, 3, 120), (7, 4, 4, 0), (6, 5, 4, 42), (10, 4, 1, 27), (8, 5, 2, 162), (7, 5, 3, 168), (5, 5, 5, 0), (9, 5, 1, 48), (7, 6, 2, 84), (6, 6, 3, 0), (8, 6, 1, 42), (7, 7, 1, 0), (9, 3, 3, 0), (10, 3, 2, 28), (11, 2, 2, 0), (11, 3, 1, 8), (12, 2, 1, 1)]
theorem tabOk5 : tabOk 4 2 1 tab5 = true := by decide +kernel
theorem sigOk5 : sigOk 4 2 1 tab5 = true := by decide +kernel
def tab6 : List (Int × Int × Int × Int) := [(8, 4, 2, 323), (7, 4, 3, 232), (6, 4, 4, 0), (5, 5, 4, 0), (9, 4, 1, 160), (10, 4, 0, 27), (7, 5, 2, 344), (6, 5, 3, 168), (8, 5, 1, 224), (9, 5, 0, 48), (6, 6, 2, 0), (7, 6, 1, 112), (8, 6, 0, 42), (7, 7, 0, 0), (8, 3, 3, 0), (9, 3, 2, 112), (10, 2, 2, 0), (10, 3, 1, 56), (11, 2, 1, 8), (11, 3, 0, 8), (12, 2, 0, 1)]
theorem tabOk6 : tabOk 4 2 0 tab6 = true := by decide +kernel
theorem sigOk6 : sigOk 4 2 0 tab6 = true := by decide +kernel
def tab7 : List (Int × Int × Int × Int) := [(9, 5, 3, 323), (8, 5, 4, 232), (7, 5, 5, 0), (6, 6, 5, 0), (10, 5, 2, 160), (11, 5, 1, 27), (8, 6, 3, 344), (7, 6, 4, 168), (9, 6, 2, 224), (10, 6, 1, 48), (7, 7, 3, 0), (8, 7, 2, 112), (9, 7, 1, 42), (8, 8, 1, 0), (9, 4, 4, 0), (10, 4, 3, 112), (11, 3, 3, 0), (11, 4, 2, 56), (12, 3, 2, 8), (12, 4, 1, 8), (13, 3, 1, 1)]
theorem tabOk7 : tabOk 5 3 1 tab7 = true := by decide +kernel
theorem sigOk7 : sigOk 5 3 1 tab7 = true := by decide +kernel
end Mine
end
section
open PySem PySem.W PySem.Calls PyProof.Rows
set_option Elab.async false
set_option maxRecDepth 100000
namespace Mine
theorem perm2 {b c y z : Int} (h : [b, c].Perm [y, z]) : (b = y ∧ c = z) ∨ (b = z ∧ c = y) := by
  have hb : b ∈ [y, z] := h.mem_iff.mp (.head _)
  rcases List.mem_cons.mp hb with rfl | hb
  · have h2 := h.cons_inv
    exact .inl ⟨rfl, by simpa using h2⟩
  · have e := List.mem_singleton.mp hb
    subst e
    have h2 := (h.trans (List.Perm.swap b y [])).cons_inv
    exact .inr ⟨rfl, by simpa using h2⟩
theorem perm3 {a b c x y z : Int} (h : [a, b, c].Perm [x, y, z]) : (a = x ∧ b = y ∧ c = z) ∨ (a = x ∧ b = z ∧ c = y) ∨ (a = y ∧ b = x ∧ c = z) ∨ (a = y ∧ b = z ∧ c = x) ∨ (a = z ∧ b = x ∧ c = y) ∨ (a = z ∧ b = y ∧ c = x) := by
  have ha : a ∈ [x, y, z] := h.mem_iff.mp (.head _)
  rcases List.mem_cons.mp ha with rfl | ha
  · rcases perm2 h.cons_inv with ⟨h1, h2⟩ | ⟨h1, h2⟩
    · exact .inl ⟨rfl, h1, h2⟩
    · exact .inr (.inl ⟨rfl, h1, h2⟩)
  · rcases List.mem_cons.mp ha with rfl | ha
    · rcases perm2 (h.trans (List.Perm.swap a x [z])).cons_inv with ⟨h1, h2⟩ | ⟨h1, h2⟩
      · exact .inr (.inr (.inl ⟨rfl, h1, h2⟩))
      · exact .inr (.inr (.inr (.inl ⟨rfl, h1, h2⟩)))
    · have e := List.mem_singleton.mp ha
      subst e
      have p : [x, y, a].Perm [a, x, y] := (List.Perm.cons x (List.Perm.swap a y [])).trans (List.Perm.swap a x [y])
      rcases perm2 (h.trans p).cons_inv with ⟨h1, h2⟩ | ⟨h1, h2⟩
      · exact .inr (.inr (.inr (.inr (.inl ⟨rfl, h1, h2⟩))))
      · exact .inr (.inr (.inr (.inr (.inr ⟨rfl, h1, h2⟩))))
theorem sorted3 {vs : List Value} {ns : List Int} {a b c : Int} (hI : IntsAre vs ns) (hP : ns.Perm [a, b, c]) (hO : List.Pairwise (fun x y => y ≤ x) ns) :
    ∃ g0 g1 g2 : Int, ∃ t0 t1 t2 : Tok, vs = [.int g0 t0, .int g1 t1, .int g2 t2] ∧ g1 ≤ g0 ∧ g2 ≤ g1 ∧ [g0, g1, g2].Perm [a, b, c] := by
  have hl := hP.length_eq
  match ns, hl with
  | [g0, g1, g2], _ =>
    cases hI with
    | cons _ t0 h1 =>
      cases h1 with
      | cons _ t1 h2 =>
        cases h2 with
        | cons _ t2 h3 =>
          cases h3
          refine ⟨g0, g1, g2, t0, t1, t2, rfl, ?_, ?_, hP⟩
          · exact (List.pairwise_cons.mp hO).1 g1 (.head _)
          · exact (List.pairwise_cons.mp (List.pairwise_cons.mp hO).2).1 g2 (.head _)
theorem lead_is (xs : List Int) : ∃ v : Nat, v < 8 ∧ ldB xs = ((v % 2 : Nat) : Int) ∧ ldG xs = ((v % 2 : Nat) : Int) + 1 + ((v / 2 % 2 : Nat) : Int) ∧ ldR xs = ((v % 2 : Nat) : Int) + 1 + ((v / 2 % 2 : Nat) : Int) + 1 + ((v / 4 : Nat) : Int) := by
  obtain ⟨j, hj, e⟩ := mods ((xs ++ [5]).getD (Int.toNat 0) 0) 8 (by decide)
  refine ⟨j, by omega, ?_⟩
  unfold ldR ldG ldB ldV
  rw [e]
  have key : ∀ j : Fin 8, (((j : Nat) : Int).fmod 2 = (((j : Nat) % 2 : Nat) : Int)) ∧ ((((j : Nat) : Int).fdiv 2).fmod 2 = (((j : Nat) / 2 % 2 : Nat) : Int)) ∧ (((j : Nat) : Int).fdiv 4 = (((j : Nat) / 4 : Nat) : Int)) := by decide +kernel
  obtain ⟨k1, k2, k3⟩ := key ⟨j, by omega⟩
  simp only at k1 k2 k3
  rw [k1, k2, k3]
  exact ⟨rfl, rfl, rfl⟩
theorem lead_bd (xs : List Int) : 0 ≤ ldB xs ∧ ldB xs ≤ 1 ∧ ldB xs + 1 ≤ ldG xs ∧ ldG xs ≤ 3 ∧ ldG xs + 1 ≤ ldR xs ∧ ldR xs ≤ 5 := by
  obtain ⟨v, hv, h1, h2, h3⟩ := lead_is xs
  rw [h1, h2, h3]
  omega
theorem votes_len8 (xs : List Int) : (votes xs).length = 8 := by
  unfold votes
  rw [List.length_append, List.length_map, List.length_drop]
  have : ((xs.drop 1).take 8).length ≤ 8 := List.length_take_le ..
  simp only [List.length_cons, List.length_nil]
  omega
theorem marks_len (xs : List Int) : (((KStt.txt ((votes xs).map mk)).length : Nat) : Int) = 8 := by
  rw [KStt.txt_length, List.length_map, votes_len8]
  rfl
theorem cnts (xs : List Int) : 0 ≤ cnt 114 ((votes xs).map mk) ∧ 0 ≤ cnt 103 ((votes xs).map mk) ∧ 0 ≤ cnt 98 ((votes xs).map mk) ∧ cnt 114 ((votes xs).map mk) + cnt 103 ((votes xs).map mk) + cnt 98 ((votes xs).map mk) = 8 := by
  have h := cnt_sum (votes xs)
  rw [votes_len8] at h
  exact h
theorem final_law {xs : List Int} {R G Bc g0 g1 g2 : Int} (hR : 0 ≤ R) (hG : 0 ≤ G) (hB : 0 ≤ Bc) (hS : R + G + Bc = 8) (hP : [g0, g1, g2].Perm [ldR xs + R, ldG xs + G, ldB xs + Bc]) (o1 : g1 ≤ g0) (o2 : g2 ≤ g1) :
    signed (ldR xs) (ldG xs) (ldB xs) (ldR xs + R) (ldG xs + G) (ldB xs + Bc) = rank (ldR xs + R) (ldG xs + G) (ldB xs + Bc) * kdfLook (ways (ldR xs) (ldG xs) (ldB xs) (g0 + 1 - ldR xs).toNat (g1 + 1 - ldG xs).toNat (g2 + 1 - ldB xs).toNat) (256 * g0 + 16 * g1 + g2) 0 := by
  have p := perm3 hP
  have key : ∀ s0 s1 s2 : Int, ldR xs = s0 → ldG xs = s1 → ldB xs = s2 → ∀ t, tabOk s0 s1 s2 t = true → sigOk s0 s1 s2 t = true →
      signed (ldR xs) (ldG xs) (ldB xs) (ldR xs + R) (ldG xs + G) (ldB xs + Bc) = rank (ldR xs + R) (ldG xs + G) (ldB xs + Bc) * lkw (ldR xs) (ldG xs) (ldB xs) g0 g1 g2 := by
    intro s0 s1 s2 e0 e1 e2 t ht hs
    subst e0 e1 e2
    exact row_of ht hs (R := R.toNat) (G := G.toNat) (by omega) (by omega) (by omega) (by omega) (by omega) (by omega) (by omega)
  obtain ⟨v, hv, h1, h2, h3⟩ := lead_is xs
  show _ = _ * lkw _ _ _ _ _ _
  have hvv : v = 0 ∨ v = 1 ∨ v = 2 ∨ v = 3 ∨ v = 4 ∨ v = 5 ∨ v = 6 ∨ v = 7 := by omega
  rcases hvv with rfl | rfl | rfl | rfl | rfl | rfl | rfl | rfl
  · exact key 2 1 0 (h3.trans (by decide)) (h2.trans (by decide)) (h1.trans (by decide)) tab0 tabOk0 sigOk0
  · exact key 3 2 1 (h3.trans (by decide)) (h2.trans (by decide)) (h1.trans (by decide)) tab1 tabOk1 sigOk1
  · exact key 3 2 0 (h3.trans (by decide)) (h2.trans (by decide)) (h1.trans (by decide)) tab2 tabOk2 sigOk2
  · exact key 4 3 1 (h3.trans (by decide)) (h2.trans (by decide)) (h1.trans (by decide)) tab3 tabOk3 sigOk3
  · exact key 3 1 0 (h3.trans (by decide)) (h2.trans (by decide)) (h1.trans (by decide)) tab4 tabOk4 sigOk4
  · exact key 4 2 1 (h3.trans (by decide)) (h2.trans (by decide)) (h1.trans (by decide)) tab5 tabOk5 sigOk5
  · exact key 4 2 0 (h3.trans (by decide)) (h2.trans (by decide)) (h1.trans (by decide)) tab6 tabOk6 sigOk6
  · exact key 5 3 1 (h3.trans (by decide)) (h2.trans (by decide)) (h1.trans (by decide)) tab7 tabOk7 sigOk7
theorem goal_bd {xs : List Int} {R G Bc g0 g1 g2 : Int} (hR : 0 ≤ R) (hG : 0 ≤ G) (hB : 0 ≤ Bc) (hS : R + G + Bc = 8) (hP : [g0, g1, g2].Perm [ldR xs + R, ldG xs + G, ldB xs + Bc]) (o1 : g1 ≤ g0) (o2 : g2 ≤ g1) :
    ldR xs ≤ g0 ∧ ldG xs ≤ g1 ∧ ldB xs ≤ g2 ∧ g0 ≤ 13 ∧ g1 ≤ 8 ∧ g2 ≤ 5 := by
  have b := lead_bd xs
  have p := perm3 hP
  omega
end Mine
namespace Mine
theorem all_facts {xs : List Int} {g0 g1 g2 : Int} (hP : [g0, g1, g2].Perm [ldR xs + cnt 114 ((votes xs).map mk), ldG xs + cnt 103 ((votes xs).map mk), ldB xs + cnt 98 ((votes xs).map mk)]) (o1 : g1 ≤ g0) (o2 : g2 ≤ g1) :
    2 ≤ ldR xs ∧ 1 ≤ ldG xs ∧ 0 ≤ ldB xs ∧ ldR xs ≤ g0 ∧ ldG xs ≤ g1 ∧ ldB xs ≤ g2 ∧ g0 ≤ 13 ∧ g1 ≤ 8 ∧ g2 ≤ 5 ∧
      ldR xs + cnt 114 ((votes xs).map mk) + (ldG xs + cnt 103 ((votes xs).map mk)) + (ldB xs + cnt 98 ((votes xs).map mk)) = ldR xs + ldG xs + ldB xs + 8 ∧
      ldR xs ≤ 5 ∧ ldG xs ≤ 3 ∧ ldB xs ≤ 1 ∧ ldR xs ≤ ldR xs + cnt 114 ((votes xs).map mk) ∧ ldG xs ≤ ldG xs + cnt 103 ((votes xs).map mk) ∧ ldB xs ≤ ldB xs + cnt 98 ((votes xs).map mk) := by
  obtain ⟨hR, hG, hB, hS⟩ := cnts xs
  have b := lead_bd xs
  have gb := goal_bd hR hG hB hS hP o1 o2
  omega
theorem all_eq {xs : List Int} {g0 g1 g2 : Int} (hP : [g0, g1, g2].Perm [ldR xs + cnt 114 ((votes xs).map mk), ldG xs + cnt 103 ((votes xs).map mk), ldB xs + cnt 98 ((votes xs).map mk)]) (o1 : g1 ≤ g0) (o2 : g2 ≤ g1) :
    signed (ldR xs) (ldG xs) (ldB xs) (ldR xs + cnt 114 ((votes xs).map mk)) (ldG xs + cnt 103 ((votes xs).map mk)) (ldB xs + cnt 98 ((votes xs).map mk)) =
      rank (ldR xs + cnt 114 ((votes xs).map mk)) (ldG xs + cnt 103 ((votes xs).map mk)) (ldB xs + cnt 98 ((votes xs).map mk)) *
        kdfLook (ways (ldR xs) (ldG xs) (ldB xs) (g0 + 1 - ldR xs).toNat (g1 + 1 - ldG xs).toNat (g2 + 1 - ldB xs).toNat) (256 * g0 + 16 * g1 + g2) 0 := by
  obtain ⟨hR, hG, hB, hS⟩ := cnts xs
  exact final_law hR hG hB hS hP o1 o2
end Mine
end
section
open PySem PySem.W PySem.Calls PyProof.Rows
set_option Elab.async false
set_option maxRecDepth 100000
set_option maxHeartbeats 16000000
namespace Mine
local macro_rules | `(tactic| k_room) => `(tactic| ((try simp only [depth_under_make, depth_under_kw, depth_in1, depth_deeper, depth_caller]); (try simp only [recursionLimit] at *); (try dsimp only); omega))
local macro_rules | `(tactic| walk_at "call builtin:max") => `(tactic| (k_here; (with_reducible show wpAny _ _ (call _ [Value.float _ _, Value.float _ _, Value.float _ _]) _ _ _); k_dflt (refine' max3f ?k0 ?k1 ?k2 ?_; (case k0 => exact rfl); (case k1 => k_asm); (case k2 => k_asm)); intro h' tk' v' F' N'))
local macro_rules | `(tactic| walk_at "call builtin:max") => `(tactic| (k_here; (with_reducible show wpAny _ _ (call _ [Value.int _ _, Value.int _ _, Value.int _ _]) _ _ _); k_dflt (refine' max3i ?k0 ?k1 ?k2 ?_; (case k0 => exact rfl); (case k1 => k_asm); (case k2 => k_asm)); intro h' tk' v' M' hM' F' N'))
local macro_rules | `(tactic| walk_at "call builtin:min") => `(tactic| (k_here; (with_reducible show wpAny _ _ (call _ [Value.float _ _, Value.float _ _, Value.float _ _]) _ _ _); k_dflt (refine' min3f ?k0 ?k1 ?k2 ?_; (case k0 => exact rfl); (case k1 => k_asm); (case k2 => k_asm)); intro h' tk' v' F' N'))
local macro_rules | `(tactic| walk_at "call builtin:min") => `(tactic| (k_here; (with_reducible show wpAny _ _ (call _ [Value.int _ _, Value.int _ _, Value.int _ _]) _ _ _); k_dflt (refine' min3i ?k0 ?k1 ?k2 ?_; (case k0 => exact rfl); (case k1 => k_asm); (case k2 => k_asm)); intro h' tk' v' M' hM' F' N'))
theorem votes_len (xs : List Int) : (votes xs).length = 8 := by
  unfold votes
  rw [List.length_append, List.length_map, List.length_drop]
  have : ((xs.drop 1).take 8).length ≤ 8 := List.length_take_le ..
  simp only [List.length_cons, List.length_nil]
  omega
theorem spL_len (v : Int) : (KStt.txt (spL v)).length ≤ 2 := by
  rw [KStt.txt_length]
  unfold spL spA
  split <;> simp
theorem item_rgb (k : Int) : KStt.txt [mk k] = PySem.Txt.item (Str.ofString "rgb") (k.fmod 3) := by
  unfold mk
  obtain ⟨j, hj, e⟩ := mods k 3 (by decide)
  rw [e]
  have h : j = 0 ∨ j = 1 ∨ j = 2 := by omega
  rcases h with rfl | rfl | rfl <;> decide +kernel
theorem join_mk (l : List Int) : PySem.Txt.join (Str.ofString "") (l.map fun k => KStt.txt [mk k]) = KStt.txt (l.map mk) := by
  rw [txt_join (fun k => [mk k])]
  congr 1
  induction l with
  | nil => rfl
  | cons a r ih => rw [List.flatMap_cons, ih]; rfl
theorem mk_one (v : Int) : (KStt.txt [mk v]).length ≤ 1 := by rw [KStt.txt_length]; exact Nat.le_refl _
theorem rank_bits (r g b : Int) : Builtin.Int.intBits (rank r g b) ≤ 64 := by
  unfold rank
  generalize decide (g < r) = x0
  generalize decide (r < g) = x1
  generalize decide (b < g) = x2
  generalize decide (g < b) = x3
  generalize decide (b < r) = x4
  generalize decide (r < b) = x5
  revert x0 x1 x2 x3 x4 x5
  decide
theorem drop3 {h₀ h : Heap} {L : Addr} {a b c : Addr × Obj} {news : List (Addr × Obj)} (N : News h₀ L h (a :: b :: c :: news)) : News h₀ L h [a, b, c] := cb_drop N fun p hp => by
  rcases List.mem_cons.mp hp with rfl | hp
  · exact .head _
  · rcases List.mem_cons.mp hp with rfl | hp
    · exact .tail _ (.head _)
    · rw [List.mem_singleton.mp hp]
      exact .tail _ (.tail _ (.head _))
theorem head : PySem.Challenge.rw_to0001_01.Holds := by
  w_on
  o_law
  refine holds_open (q := q) (loose := loose) (Xt := Xt) (XP := XL q []) (Yf := H.obs) (Ya := H.val) (YP := H.says) (N := 6000) left H.of H.keeps (fun s e => xl_of s (Bool.and_eq_true_iff.mp e).1) XL.keeps (by rfl) (by rfl) (by rfl) (fun s e => recFacts_of (Bool.and_eq_true_iff.mp e).2) rfl ?said ?ok ?hb ?hw ?hc
  case said => assumption
  case ok => decide +kernel
  case hb => exact ⟨rfl, rfl, rfl, rfl, rfl, by decide +kernel⟩
  case hw => w_witness2
  case hc =>
    w_strict (k_go0; (all_goals try k_fold); skip)
    (rename Ground _ _ _ _ _ _ _ _ _ => c1); (with_reducible rename H.says _ _ => c2); (rename Flt.MathXP _ _ _ => c3); (rename LooseAre _ _ _ => c4); (rename Glob _ _ _ _ _ _ _ _ => c5); (rename Tables _ _ _ _ => c6); (rename TopE _ _ _ _ => c7); (rename TopW _ _ _ => c8); (rename BMod _ _ _ _ _ => c9); (rename Dflts _ _ _ _ _ _ => c10)
    clear c10 c1 c2 c3 c4 c5 c6 c7 c8 c9
    (with_reducible rename (K _).In _ => KX0)
    revert KX0; k_fill; intro KX0
    repeat' ((fail_if_success (with_reducible show wpAny _ _ (eval (Expr.ListComp _ _ _ _) _) _ _ _)); (first | ((with_reducible show wpAny _ _ (call (Value.ref 128) [Value.ref _]) _ _ _); k_dflt (refine' votes_spec ?l128 ?v128 ?k128 ?B128 ?F128 ?X128 ?N128 ?T128 ?c128 ?d128 ?u128 ?r128; (case l128 => assumption); (case v128 => assumption); (case k128 => omega); (case B128 => k_asm); (case F128 => k_asm); (case X128 => k_asm); (case N128 => k_asm); (case T128 => k_asm); (case c128 => first | exact rfl | assumption); (case d128 => first | exact Nat.le_of_ble_eq_true rfl | ((try simp only [depth_deeper]); omega)); (case u128 => first | exact Nat.le_of_ble_eq_true rfl | ((try simp only [units_deeper]); omega))); intro DV wsV nV hV tkV FV lV iV NV) | ((fail_if_success (with_reducible show wpAny _ _ (call (Value.ref _) _) _ _ _)); first | (k_unfold; (try dsimp only)) | (k_end; wrow_close) | walk1 | (dsimp only; walk1) | (leave1; walk_say "STEP leave1"; try dsimp only) | fail "no step")))
    k_dflt (refine LCg.ListComp_U (F₀ := by k_asm) (by with_unfolding_all rfl) (by decide) (by rfl) (by decide) (by rfl) ?_)
    walk1
    k_dflt (refine LCg.CompSrc.ledger (by rfl) (by k_asm) (by k_asm) (by k_mem) (by rw [List.size_toArray, iV.length, votes_len, sizeLine_eq]; omega) ?_)
    intro g1
    refine kct_list (fun k => KStt.txt (spL k)) iV (fun k t I oI C oC D m2 ys h tk E' hk hC hx FC NC off ne mk => ?turn1) ?fin1
    case turn1 =>
      repeat' ((fail_if_success (with_reducible show LCg.CompEnd _ _ _ _ _ _ _ _ _ _ _ _ _ _)); (first | ((with_reducible show wpAny _ _ (call (Value.ref 142) [Value.int _ _]) _ _ _); k_dflt (refine' spelled_spec ?B142 ?F142 ?X142 ?N142 ?T142 ?c142 ?d142 ?u142 ?r142; (case B142 => k_asm); (case F142 => k_asm); (case X142 => k_asm); (case N142 => k_asm); (case T142 => k_asm); (case c142 => first | exact rfl | assumption); (case d142 => first | exact Nat.le_of_ble_eq_true rfl | ((try simp only [depth_deeper]); omega)); (case u142 => first | exact Nat.le_of_ble_eq_true rfl | ((try simp only [units_deeper]); omega))); intro tS hS tkS FS NS) | ((fail_if_success (with_reducible show wpAny _ _ (call (Value.ref _) _) _ _ _)); first | (k_unfold; (try dsimp only)) | (k_end; wrow_close) | walk1 | (dsimp only; walk1) | (leave1; walk_say "STEP leave1"; try dsimp only) | fail "no step")))
      refine LCg.CompEnd.intro (by assumption) (by assumption) _ (fun p hp => hp) off (Or.inr ⟨_, .head _, rfl, _, rfl⟩) (kct_el rfl rfl rfl)
    case fin1 =>
      unfold KPfDone
      intro ys1 hC1 hl1
      unfold LCg.FinE
      intro D1 h1 tk1 F1 N1 o1
      repeat' ((fail_if_success (with_reducible show wpAny _ _ (call (Value.builtin "str.join") _) _ _ _)); (first | ((fail_if_success (with_reducible show wpAny _ _ (call (Value.ref _) _) _ _ _)); first | (k_unfold; (try dsimp only)) | (k_end; wrow_close) | walk1 | (dsimp only; walk1) | (leave1; walk_say "STEP leave1"; try dsimp only) | fail "no step")))
      k_dflt (refine KT.join_B 2 (News.isList N1 (.head _)) hC1 (fun a _ => spL_len a) (by rw [votes_len]; decide) (by decide) ?_)
      intro tj kj
      repeat' ((fail_if_success (with_reducible show wpAny _ _ (eval (Expr.ListComp _ _ _ _) _) _ _ _)); (first | ((with_reducible show wpAny _ _ (call (Value.ref 149) [Value.str _ _]) _ _ _); k_dflt (refine' read_spec ?l149 ?B149 ?F149 ?X149 ?N149 ?T149 ?c149 ?d149 ?u149 ?r149; (case l149 => exact said_len _); (case B149 => k_asm); (case F149 => k_asm); (case X149 => k_asm); (case N149 => k_asm); (case T149 => k_asm); (case c149 => first | exact rfl | assumption); (case d149 => first | exact Nat.le_of_ble_eq_true rfl | ((try simp only [depth_deeper]); omega)); (case u149 => first | exact Nat.le_of_ble_eq_true rfl | ((try simp only [units_deeper]); omega))); intro tR hR tkR FR NR; (rw [read_is])) | ((fail_if_success (with_reducible show wpAny _ _ (call (Value.ref _) _) _ _ _)); first | (k_unfold; (try dsimp only)) | (k_end; wrow_close) | walk1 | (dsimp only; walk1) | (leave1; walk_say "STEP leave1"; try dsimp only) | fail "no step")))
      refine wpAny_with_toks (n := 1) (Nat.le_add_left 1 _) ?_
      k_dflt (refine LCg.ListComp_U (F₀ := by k_asm) (by with_unfolding_all rfl) (by decide) (by rfl) (by decide) (by rfl) ?_)
      walk1
      k_dflt (refine LCg.CompSrc.ledger (by rfl) (by k_asm) (by k_asm) (by k_mem) (by rw [List.size_toArray, iV.length, votes_len, sizeLine_eq]; omega) ?_)
      intro g2
      refine kct_list (fun k => KStt.txt [mk k]) iV (fun k t I oI C oC D m2 ys h tk E' hk hC hx FC NC off ne mrk => ?turn2) ?fin2
      case turn2 =>
        repeat' ((fail_if_success (with_reducible show LCg.CompEnd _ _ _ _ _ _ _ _ _ _ _ _ _ _)); (first | ((fail_if_success (with_reducible show wpAny _ _ (call (Value.ref _) _) _ _ _)); first | (k_unfold; (try dsimp only)) | (k_end; wrow_close) | walk1 | (dsimp only; walk1) | (leave1; walk_say "STEP leave1"; try dsimp only) | fail "no step")))
        refine LCg.CompEnd.intro (by assumption) (by assumption) _ (fun p hp => hp) off (Or.inr ⟨_, .tail _ (.head _), rfl, _, rfl⟩) (kct_el (item_rgb k) rfl rfl)
      case fin2 =>
        unfold KPfDone
        intro ys2 hC2 hl2
        unfold LCg.FinE
        intro D2 h2 tk2 F2 N2 o2 hk2
        repeat' ((fail_if_success (with_reducible show wpAny _ _ (call (Value.builtin "str.join") _) _ _ _)); (first | ((fail_if_success (with_reducible show wpAny _ _ (call (Value.ref _) _) _ _ _)); first | (k_unfold; (try dsimp only)) | (k_end; wrow_close) | walk1 | (dsimp only; walk1) | (leave1; walk_say "STEP leave1"; try dsimp only) | fail "no step")))
        refine wpAny_with_toks (n := 1) hk2 ?_
        k_dflt (refine KT.join_B 1 (News.isList N2 (.head _)) hC2 (fun a _ => mk_one a) (by rw [votes_len]; decide) (by decide) ?_)
        intro tj2 kj2 hkj2
        rw [join_mk]
        repeat' ((fail_if_success (with_reducible show wpAny _ _ (truthy _) _ _ _)); (fail_if_success (with_reducible show wpAny _ _ (eval (Expr.List _ _) _) _ _ _)); (first | ((with_reducible show wpAny _ _ (call (Value.ref 135) [Value.ref _]) _ _ _); (refine wpAny_with_toks (n := 1) (by first | assumption | exact Nat.le_add_left 1 _) ?_); k_dflt (refine' lead_spec ?l135 ?v135 ?k135 ?B135 ?F135 ?X135 ?N135 ?T135 ?c135 ?d135 ?u135 ?r135; (case l135 => assumption); (case v135 => assumption); (case k135 => omega); (case B135 => k_asm); (case F135 => k_asm); (case X135 => k_asm); (case N135 => k_asm); (case T135 => k_asm); (case c135 => first | exact rfl | assumption); (case d135 => first | exact Nat.le_of_ble_eq_true rfl | ((try simp only [depth_deeper]); omega)); (case u135 => first | exact Nat.le_of_ble_eq_true rfl | ((try simp only [units_deeper]); omega))); intro DL tL0 tL1 tL2 hL tkL FL lL NL hkL) | ((fail_if_success (with_reducible show wpAny _ _ (call (Value.ref _) _) _ _ _)); first | (k_unfold; (try dsimp only)) | (k_end; wrow_close) | walk1 | (dsimp only; walk1) | (leave1; walk_say "STEP leave1"; try dsimp only) | fail "no step")))
        rw [bne_self_eq_false]
        repeat' ((fail_if_success (with_reducible show wpAny _ _ (eval (Expr.List _ _) _) _ _ _)); (fail_if_success (with_reducible show wpAny _ _ (storeName _ _ _) _ _ _)); (first | ((with_reducible show wpAny _ _ (call (Value.ref 135) [Value.ref _]) _ _ _); (refine wpAny_with_toks (n := 1) (by first | assumption | exact Nat.le_add_left 1 _) ?_); k_dflt (refine' lead_spec ?l135 ?v135 ?k135 ?B135 ?F135 ?X135 ?N135 ?T135 ?c135 ?d135 ?u135 ?r135; (case l135 => assumption); (case v135 => assumption); (case k135 => omega); (case B135 => k_asm); (case F135 => k_asm); (case X135 => k_asm); (case N135 => k_asm); (case T135 => k_asm); (case c135 => first | exact rfl | assumption); (case d135 => first | exact Nat.le_of_ble_eq_true rfl | ((try simp only [depth_deeper]); omega)); (case u135 => first | exact Nat.le_of_ble_eq_true rfl | ((try simp only [units_deeper]); omega))); intro DL tL0 tL1 tL2 hL tkL FL lL NL hkL) | ((fail_if_success (with_reducible show wpAny _ _ (call (Value.ref _) _) _ _ _)); first | (k_unfold; (try dsimp only)) | (k_end; wrow_close) | walk1 | (dsimp only; walk1) | (leave1; walk_say "STEP leave1"; try dsimp only) | fail "no step")))
        refine wpAny_with_toks (n := 1) hkL ?_
        walk1
        intro hks
        repeat' ((fail_if_success (with_reducible show wpAny _ _ (call (Value.ref 116) _) _ _ _)); (first | ((fail_if_success (with_reducible show wpAny _ _ (call (Value.ref _) _) _ _ _)); first | (k_unfold; (try dsimp only)) | (k_end; wrow_close) | walk1 | (dsimp only; walk1) | (leave1; walk_say "STEP leave1"; try dsimp only) | fail "no step")))
        ((with_reducible show wpAny _ _ (call (Value.ref 116) [Value.str _ _, Value.str _ _]) _ _ _); k_dflt (refine' count_spec (c := 114) ?y116x1 ?z116x1 ?t116x1 ?a116x1 ?B116x1 ?F116x1 ?X116x1 ?N116x1 ?T116x1 ?c116x1 ?d116x1 ?u116x1 ?r116x1; (case y116x1 => exact rfl); (case z116x1 => first | exact Nat.succ_ne_zero _ | exact Nat.ne_of_gt hks); (case t116x1 => exact Nat.lt_succ_self _); (case a116x1 => exact ascii_marks _); (case B116x1 => k_asm); (case F116x1 => k_asm); (case X116x1 => k_asm); (case N116x1 => k_asm); (case T116x1 => k_asm); (case c116x1 => first | exact rfl | assumption); (case d116x1 => first | exact Nat.le_of_ble_eq_true rfl | ((try simp only [depth_deeper]); omega)); (case u116x1 => first | exact Nat.le_of_ble_eq_true rfl | ((try simp only [units_deeper]); omega))); intro tC hC tkC FC NC; (rw [codes_marks]))
        repeat' ((fail_if_success (with_reducible show wpAny _ _ (call (Value.ref 116) _) _ _ _)); (first | ((fail_if_success (with_reducible show wpAny _ _ (call (Value.ref _) _) _ _ _)); first | (k_unfold; (try dsimp only)) | (k_end; wrow_close) | walk1 | (dsimp only; walk1) | (leave1; walk_say "STEP leave1"; try dsimp only) | fail "no step")))
        ((with_reducible show wpAny _ _ (call (Value.ref 116) [Value.str _ _, Value.str _ _]) _ _ _); k_dflt (refine' count_spec (c := 103) ?y116x2 ?z116x2 ?t116x2 ?a116x2 ?B116x2 ?F116x2 ?X116x2 ?N116x2 ?T116x2 ?c116x2 ?d116x2 ?u116x2 ?r116x2; (case y116x2 => exact rfl); (case z116x2 => first | exact Nat.succ_ne_zero _ | exact Nat.ne_of_gt hks); (case t116x2 => exact Nat.lt_succ_self _); (case a116x2 => exact ascii_marks _); (case B116x2 => k_asm); (case F116x2 => k_asm); (case X116x2 => k_asm); (case N116x2 => k_asm); (case T116x2 => k_asm); (case c116x2 => first | exact rfl | assumption); (case d116x2 => first | exact Nat.le_of_ble_eq_true rfl | ((try simp only [depth_deeper]); omega)); (case u116x2 => first | exact Nat.le_of_ble_eq_true rfl | ((try simp only [units_deeper]); omega))); intro tC hC tkC FC NC; (rw [codes_marks]))
        repeat' ((fail_if_success (with_reducible show wpAny _ _ (call (Value.ref 116) _) _ _ _)); (first | ((fail_if_success (with_reducible show wpAny _ _ (call (Value.ref _) _) _ _ _)); first | (k_unfold; (try dsimp only)) | (k_end; wrow_close) | walk1 | (dsimp only; walk1) | (leave1; walk_say "STEP leave1"; try dsimp only) | fail "no step")))
        ((with_reducible show wpAny _ _ (call (Value.ref 116) [Value.str _ _, Value.str _ _]) _ _ _); k_dflt (refine' count_spec (c := 98) ?y116x3 ?z116x3 ?t116x3 ?a116x3 ?B116x3 ?F116x3 ?X116x3 ?N116x3 ?T116x3 ?c116x3 ?d116x3 ?u116x3 ?r116x3; (case y116x3 => exact rfl); (case z116x3 => first | exact Nat.succ_ne_zero _ | exact Nat.ne_of_gt hks); (case t116x3 => exact Nat.lt_succ_self _); (case a116x3 => exact ascii_marks _); (case B116x3 => k_asm); (case F116x3 => k_asm); (case X116x3 => k_asm); (case N116x3 => k_asm); (case T116x3 => k_asm); (case c116x3 => first | exact rfl | assumption); (case d116x3 => first | exact Nat.le_of_ble_eq_true rfl | ((try simp only [depth_deeper]); omega)); (case u116x3 => first | exact Nat.le_of_ble_eq_true rfl | ((try simp only [units_deeper]); omega))); intro tC hC tkC FC NC; (rw [codes_marks]))
        repeat' ((fail_if_success (with_reducible show wpAny _ _ (call (Value.ref _) _) _ _ _)); (first | ((fail_if_success (with_reducible show wpAny _ _ (call (Value.ref _) _) _ _ _)); first | (k_unfold; (try dsimp only)) | (k_end; wrow_close) | walk1 | (dsimp only; walk1) | (leave1; walk_say "STEP leave1"; try dsimp only) | fail "no step")))
        (rename List.Perm _ _ => hP); (rename List.Pairwise _ _ => hO); (rename News _ _ _ _ => N5); (rename IntsAre _ _ => i5)
        (rename ((_ : Nat) < _ ∧ (_ : Nat) < _ ∧ (_ : Nat) < _ ∧ (_ : Nat) < _ ∧ (_ : Nat) < _) => a5); (rename ((_ : Nat) < _ ∧ (_ : Nat) < _ ∧ (_ : Nat) < _ ∧ (_ : Nat) < _) => a4)
        obtain ⟨g0, g1, g2, u0, u1, u2, hvs5, og1, og2, hP3⟩ := sorted3 i5 hP hO
        subst hvs5
        obtain ⟨A1, A2, A3, B1, B2, B3, E1, E2, E3, SM, S1, S2, S3, T1, T2, T3⟩ := all_facts hP3 og1 og2
        have EQ := all_eq hP3 og1 og2
        have N6 := drop3 N5
        clear N5 hP hO i5
        ((with_reducible show wpAny _ _ (call (Value.ref 163) [Value.ref _, Value.ref _]) _ _ _); k_dflt (refine' ways_spec ?B163 ?F163 ?X163 ?N163 ?T163 ?c163 ?d163 ?u163 ?o1 ?o2 ?a1 ?a2 ?a3 ?b1 ?b2 ?b3 ?e1 ?e2 ?e3 ?r163; (case o1 => exact a4.1); (case o2 => exact a5.1); (case a1 => exact A1); (case a2 => exact A2); (case a3 => exact A3); (case b1 => exact B1); (case b2 => exact B2); (case b3 => exact B3); (case e1 => exact E1); (case e2 => exact E2); (case e3 => exact E3); (case B163 => k_asm); (case F163 => k_asm); (case X163 => k_asm); (case N163 => exact N6); (case T163 => k_asm); (case c163 => first | exact rfl | assumption); (case d163 => first | exact Nat.le_of_ble_eq_true rfl | ((try simp only [depth_deeper]); omega)); (case u163 => first | exact Nat.le_of_ble_eq_true rfl | ((try simp only [units_deeper]); omega))); intro tW hW tkW FW NW)
        repeat' ((fail_if_success (with_reducible show wpAny _ _ (call (Value.ref _) _) _ _ _)); (fail_if_success (with_reducible show wpAny _ _ (call (Value.builtin "len") _) _ _ _)); (first | ((fail_if_success (with_reducible show wpAny _ _ (call (Value.ref _) _) _ _ _)); first | (k_unfold; (try dsimp only)) | (k_end; wrow_close) | walk1 | (dsimp only; walk1) | (leave1; walk_say "STEP leave1"; try dsimp only) | fail "no step")))
        refine SBL.len (by rw [marks_len]; decide) ?_
        rw [marks_len]
        repeat' ((fail_if_success (with_reducible show wpAny _ _ (call (Value.ref _) _) _ _ _)); (first | ((fail_if_success (with_reducible show wpAny _ _ (call (Value.ref _) _) _ _ _)); first | (k_unfold; (try dsimp only)) | (k_end; wrow_close) | walk1 | (dsimp only; walk1) | (leave1; walk_say "STEP leave1"; try dsimp only) | fail "no step")))
        ((with_reducible show wpAny _ _ (call (Value.ref 170) [Value.ref _, Value.ref _, Value.int _ _]) _ _ _); k_dflt (refine' signed_spec ?B170 ?F170 ?X170 ?N170 ?T170 ?c170 ?d170 ?u170 ?p1 ?p2 ?q1 ?q2 ?q3 ?hs ?s1 ?s2 ?s3 ?t1 ?t2 ?t3 ?r170; (case p1 => exact a4.1); (case p2 => exact a5.1); (case q1 => exact A1); (case q2 => exact A2); (case q3 => exact A3); (case hs => exact SM); (case s1 => exact S1); (case s2 => exact S2); (case s3 => exact S3); (case t1 => exact T1); (case t2 => exact T2); (case t3 => exact T3); (case B170 => k_asm); (case F170 => k_asm); (case X170 => k_asm); (case N170 => k_asm); (case T170 => k_asm); (case c170 => first | exact rfl | assumption); (case d170 => first | exact Nat.le_of_ble_eq_true rfl | ((try simp only [depth_deeper]); omega)); (case u170 => first | exact Nat.le_of_ble_eq_true rfl | ((try simp only [units_deeper]); omega))); intro tS hS tkS FS NS)
        repeat' ((fail_if_success (with_reducible show wpAny _ _ (call (Value.ref _) _) _ _ _)); (first | ((fail_if_success (with_reducible show wpAny _ _ (call (Value.ref _) _) _ _ _)); first | (k_unfold; (try dsimp only)) | (k_end; wrow_close) | walk1 | (dsimp only; walk1) | (leave1; walk_say "STEP leave1"; try dsimp only) | fail "no step")))
        ((with_reducible show wpAny _ _ (call (Value.ref 177) [Value.int _ _, Value.int _ _, Value.int _ _]) _ _ _); k_dflt (refine' rank_spec ?B177 ?F177 ?X177 ?N177 ?T177 ?c177 ?d177 ?u177 ?r177; (case B177 => k_asm); (case F177 => k_asm); (case X177 => k_asm); (case N177 => k_asm); (case T177 => k_asm); (case c177 => first | exact rfl | assumption); (case d177 => first | exact Nat.le_of_ble_eq_true rfl | ((try simp only [depth_deeper]); omega)); (case u177 => first | exact Nat.le_of_ble_eq_true rfl | ((try simp only [units_deeper]); omega))); intro tK hK tkK FK NK)
        repeat' ((fail_if_success (with_reducible show wpAny _ _ (binaryOp Operator.Mult _ _) _ _ _)); (first | ((fail_if_success (with_reducible show wpAny _ _ (call (Value.ref _) _) _ _ _)); first | (k_unfold; (try dsimp only)) | (k_end; wrow_close) | walk1 | (dsimp only; walk1) | (leave1; walk_say "STEP leave1"; try dsimp only) | fail "no step")))
        refine PyProof.Rows.mul_int ?_ (.of_left (rank_bits _ _ _))
        repeat' ((first | ((fail_if_success (with_reducible show wpAny _ _ (call (Value.ref _) _) _ _ _)); first | (k_unfold; (try dsimp only)) | (k_end; wrow_close) | walk1 | (dsimp only; walk1) | (leave1; walk_say "STEP leave1"; try dsimp only) | fail "no step")))

end Mine
end
theorem PySem.Challenge.cw_to0001_01_holds : PySem.Challenge.rw_to0001_01.Holds := by
  exact Mine.head
