import JvmDerived
import JvmDerived.Pilot.@@N@@Statement
import JvmDerived.Pilot.@@N@@Code
set_option linter.unusedVariables false
set_option linter.unusedSimpArgs false
namespace Jvm.Own
open Jvm Jvm.ClassFile Sem Op Lib Jvm.Free Jvm.Stand Jvm.LawKit Jvm.RoadKit
section Core
variable {p : Program} {l : Launch} {e : Env} {R : Room} {s : State} {m : MethodId} {args : Array Value} {below : List Frame} {meth : Method} {c : Code} {Z : State} {own nm : String} {bytes : ByteArray} {maxL : Nat} {ret : Option FieldType} {n0 : Nat} {a0 : Array Value}
  {T T' : State} {h h' : Heap} {cells slots : Nat} {Q : Option Value → Heap → Prop} {Ls : Array Slot} {st : List Value} {pc n : Nat}
/-- where a walk stands: the state T, its heap h, the cells and slots made so far; nothing below n0 written -/
def Pos (p : Program) (l : Launch) (e : Env) (R : Room) (s : State) (m : MethodId) (args : Array Value) (below : List Frame) (meth : Method) (c : Code) (Z : State) (own nm : String) (bytes : ByteArray) (maxL : Nat) (ret : Option FieldType) (n0 : Nat) (T : State) (h : Heap) (cells slots : Nat) : Prop :=
  (∃ locs, Stand p l e R s m args below meth c T locs cells slots ∧ Fr n0 locs) ∧ T.heap = h ∧ p.tables.exec = Jvm.exec ∧ c.code = bytes ∧ c.maxLocals = maxL ∧ s.vm.findClass own = some m.cls ∧ Z.Warmed39 s.vm ∧ meth.sig.returnType = ret ∧ meth.name = nm ∧ meth.locks = false ∧ n0 ≤ s.heap.size
/-- from the frame g the method comes to its end as Q says -/
def Ends (p : Program) (e : Env) (below : List Frame) (s : State) (R : Room) (n0 : Nat) (Q : Option Value → Heap → Prop) (T : State) (g : JFrame) : Prop :=
  ∃ s₂ o, Steps p.tables e below (T.setTop g) s₂ ∧ s₂.status = .running ∧ Ended s₂ below o ∧ ∃ v L, o = .returned v ∧ (Q v s₂.heap ∧ Fr n0 L) ∧ FrameEnd s o s₂ L R.cells R.slots
/-- a method's contract at given arguments and a given heap -/
def Meth (l : Launch) (Z : State) (y : MethodName) (bytes : ByteArray) (maxL : Nat) (ret : Option FieldType) (rm : Room) (as : Array Value) (h : Heap) (n0 : Nat) (Q : Option Value → Heap → Prop) : Prop :=
  ∀ ws : List Cond, MetFree l y (head1 (Cond.code y bytes maxL ret :: ws) rm) (fun a U => a = as ∧ Z.Warmed39 U.vm ∧ U.heap = h) (fun _ _ _ _ _ => True) (fun _ U o U' => ∃ v L, o = .returned v ∧ (Q v U'.heap ∧ Fr n0 L) ∧ FrameEnd U o U' L rm.cells rm.slots)
theorem Pos.stand (P : Pos p l e R s m args below meth c Z own nm bytes maxL ret n0 T h cells slots) : ∃ locs, Stand p l e R s m args below meth c T locs cells slots ∧ Fr n0 locs := P.1
theorem Pos.heap (P : Pos p l e R s m args below meth c Z own nm bytes maxL ret n0 T h cells slots) : T.heap = h := P.2.1
theorem Pos.hx (P : Pos p l e R s m args below meth c Z own nm bytes maxL ret n0 T h cells slots) : p.tables.exec = Jvm.exec := P.2.2.1
theorem Pos.code (P : Pos p l e R s m args below meth c Z own nm bytes maxL ret n0 T h cells slots) : c.code = bytes := P.2.2.2.1
theorem Pos.maxl (P : Pos p l e R s m args below meth c Z own nm bytes maxL ret n0 T h cells slots) : c.maxLocals = maxL := P.2.2.2.2.1
theorem Pos.own' (P : Pos p l e R s m args below meth c Z own nm bytes maxL ret n0 T h cells slots) : s.vm.findClass own = some m.cls := P.2.2.2.2.2.1
theorem Pos.hZ (P : Pos p l e R s m args below meth c Z own nm bytes maxL ret n0 T h cells slots) : Z.Warmed39 s.vm := P.2.2.2.2.2.2.1
theorem Pos.rets (P : Pos p l e R s m args below meth c Z own nm bytes maxL ret n0 T h cells slots) : meth.sig.returnType = ret := P.2.2.2.2.2.2.2.1
theorem Pos.name (P : Pos p l e R s m args below meth c Z own nm bytes maxL ret n0 T h cells slots) : meth.name = nm := P.2.2.2.2.2.2.2.2.1
theorem Pos.locks (P : Pos p l e R s m args below meth c Z own nm bytes maxL ret n0 T h cells slots) : meth.locks = false := P.2.2.2.2.2.2.2.2.2.1
theorem Pos.low0 (P : Pos p l e R s m args below meth c Z own nm bytes maxL ret n0 T h cells slots) : n0 ≤ s.heap.size := P.2.2.2.2.2.2.2.2.2.2
theorem Pos.low (P : Pos p l e R s m args below meth c Z own nm bytes maxL ret n0 T h cells slots) : n0 ≤ h.size := by
  obtain ⟨_, X, -⟩ := P.stand; rw [← P.heap]; exact Nat.le_trans P.low0 X.same.2.1
theorem Pos.here (P : Pos p l e R s m args below meth c Z own nm bytes maxL ret n0 T h cells slots) : At T m c below := by obtain ⟨_, X, -⟩ := P.stand; exact X.here
/-- on to another state of the same walk -/
theorem Pos.to (P : Pos p l e R s m args below meth c Z own nm bytes maxL ret n0 T h cells slots) {cells' slots' : Nat} {locs : List Loc} (X : Stand p l e R s m args below meth c T' locs cells' slots') (N : Fr n0 locs) (e' : T'.heap = h') : Pos p l e R s m args below meth c Z own nm bytes maxL ret n0 T' h' cells' slots' :=
  ⟨⟨_, X, N⟩, e', P.2.2.1, P.2.2.2.1, P.2.2.2.2.1, P.2.2.2.2.2.1, P.2.2.2.2.2.2.1, P.2.2.2.2.2.2.2.1, P.2.2.2.2.2.2.2.2.1, P.2.2.2.2.2.2.2.2.2.1, P.low0⟩
theorem Ends.via {g g' : JFrame} (E : Ends p e below s R n0 Q T' g') (k : ∀ t, Steps p.tables e below (T'.setTop g') t → Steps p.tables e below (T.setTop g) t) : Ends p e below s R n0 Q T g := by
  obtain ⟨s₂, o, h1, h2⟩ := E; exact ⟨s₂, o, k _ h1, h2⟩
theorem Ends.cast {g g' : JFrame} (q : g = g') (E : Ends p e below s R n0 Q T g') : Ends p e below s R n0 Q T g := q ▸ E
/-- a value by a name -/
theorem nameI {α : Type} {x : α} {F : α → Prop} (k : ∀ z, z = x → F z) : F x := k x rfl
theorem Meth.of {y : MethodName} {rm : Room} {as : Array Value} (hcls : plainFor y = true) (hlow : n0 ≤ h.size)
    (body : ∀ p e s m args below meth c T, Pos p l e rm s m args below meth c Z y.cls y.name bytes maxL ret n0 T h 0 0 → Ends p e below s rm n0 Q T (entryFrame m as maxL)) : Meth l Z y bytes maxL ret rm as h n0 Q := by
  intro ws
  refine MetFree.of_bodySF hcls hisR ?_
  intro p e s m args below meth c s₁ Bd hml0 hP hK
  obtain ⟨rfl, hZ, hh⟩ := hP
  have hown : s.vm.findClass y.cls = some m.cls := findClass_of_methodNamed Bd.named
  have hnm := (name_of_methodNamed Bd.named Bd.method).1
  have X0 : Stand p l e rm s m args below meth c s₁ [] 0 0 := Stand.of_body Bd
  have e0 : s₁.heap = h := by rw [← hh, Bd.state]; rfl
  exact body p e s m args below meth c s₁ ⟨⟨[], X0, Fr.nil n0⟩, e0, Bd.exec, Bd.bytes, hml0, hown, hZ, Bd.returns, hnm, Bd.notSynchronized, hh ▸ hlow⟩
/-! returns -/
theorem retV (P : Pos p l e R s m args below meth c Z own nm bytes maxL none n0 T h cells slots) (hd : decode bytes pc = .ok (.return_, 1)) (hc : cells ≤ R.cells) (hs : slots ≤ R.slots) (q : Q none h) : Ends p e below s R n0 Q T (mkF m pc Ls []) := by
  obtain ⟨locs, X, N⟩ := P.stand
  obtain ⟨fs, hr, hrun, hended, hW, hsame⟩ := X.leave (v := none) (fun _ => rfl) P.locks
  refine ⟨_, _, X.returnOut P.hx P.rets (hb P.code hd) hr, hrun, hended, _, _, rfl, ⟨?_, N⟩, ⟨_, rfl⟩, hW, hsame.mono hc hs⟩
  show Q none T.heap
  rw [P.heap]; exact q
theorem retA {w : Value} {t : FieldType} {i : Instr} (P : Pos p l e R s m args below meth c Z own nm bytes maxL (some t) n0 T h cells slots) (hd : decode bytes pc = .ok (i, 1)) (hn : narrow t w = w)
    (hi : (i = .ireturn ∧ (t = .int ∨ t = .boolean ∨ t = .byte ∨ t = .char ∨ t = .short) ∧ ∃ z, w = .int z) ∨ (i = .lreturn ∧ t = .long ∧ ∃ z, w = .long z) ∨ (i = .dreturn ∧ t = .double ∧ ∃ z, w = .double z) ∨ (i = .freturn ∧ t = .float ∧ ∃ z, w = .float z) ∨ (i = .areturn ∧ t.isReference = true ∧ w.isRef = true))
    (hc : cells ≤ R.cells) (hs : slots ≤ R.slots) (q : Q (some w) h) : Ends p e below s R n0 Q T (mkF m pc Ls (w :: st)) := by
  obtain ⟨locs, X, N⟩ := P.stand
  obtain ⟨fs, hr, hrun, hended, hW, hsame⟩ := X.leave (v := some w) (fun h => by rw [P.rets] at h; cases h) P.locks
  refine ⟨_, _, retOut X P.hx P.rets hn hi (hb P.code hd) hr, hrun, hended, _, _, rfl, ⟨?_, N⟩, ⟨_, rfl⟩, hW, hsame.mono hc hs⟩
  show Q (some w) T.heap
  rw [P.heap]; exact q
theorem retI {x : Int32} (P : Pos p l e R s m args below meth c Z own nm bytes maxL (some .int) n0 T h cells slots) (hd : decode bytes pc = .ok (.ireturn, 1)) (hc : cells ≤ R.cells) (hs : slots ≤ R.slots) (q : Q (some (.int x)) h) : Ends p e below s R n0 Q T (mkF m pc Ls (.int x :: st)) :=
  retA P hd rfl (Or.inl ⟨rfl, Or.inl rfl, _, rfl⟩) hc hs q
theorem retL {x : Int64} (P : Pos p l e R s m args below meth c Z own nm bytes maxL (some .long) n0 T h cells slots) (hd : decode bytes pc = .ok (.lreturn, 1)) (hc : cells ≤ R.cells) (hs : slots ≤ R.slots) (q : Q (some (.long x)) h) : Ends p e below s R n0 Q T (mkF m pc Ls (.long x :: st)) :=
  retA P hd rfl (Or.inr (Or.inl ⟨rfl, rfl, _, rfl⟩)) hc hs q
theorem retR {w : Value} {C : String} (P : Pos p l e R s m args below meth c Z own nm bytes maxL (some (.object C)) n0 T h cells slots) (hd : decode bytes pc = .ok (.areturn, 1)) (hw : w.isRef = true) (hc : cells ≤ R.cells) (hs : slots ≤ R.slots) (q : Q (some w) h) : Ends p e below s R n0 Q T (mkF m pc Ls (w :: st)) := by
  refine retA P hd ?_ (Or.inr (Or.inr (Or.inr (Or.inr ⟨rfl, rfl, hw⟩)))) hc hs q
  rcases ref_cases hw with rfl | ⟨z, rfl⟩ <;> rfl
/-- a boolean's return narrows to the last bit -/
theorem retZ {x : Int32} (P : Pos p l e R s m args below meth c Z own nm bytes maxL (some .boolean) n0 T h cells slots) (hd : decode bytes pc = .ok (.ireturn, 1)) (hx : x = 0 ∨ x = 1) (hc : cells ≤ R.cells) (hs : slots ≤ R.slots) (q : Q (some (.int x)) h) : Ends p e below s R n0 Q T (mkF m pc Ls (.int x :: st)) := by
  refine retA P hd ?_ (Or.inl ⟨rfl, Or.inr (Or.inl rfl), _, rfl⟩) hc hs q
  rcases hx with rfl | rfl <;> rfl
theorem retB {x : Int32} (P : Pos p l e R s m args below meth c Z own nm bytes maxL (some .byte) n0 T h cells slots) (hd : decode bytes pc = .ok (.ireturn, 1)) (hx : x.toInt8.toInt32 = x) (hc : cells ≤ R.cells) (hs : slots ≤ R.slots) (q : Q (some (.int x)) h) : Ends p e below s R n0 Q T (mkF m pc Ls (.int x :: st)) :=
  retA P hd (by show Value.int x.toInt8.toInt32 = Value.int x; rw [hx]) (Or.inl ⟨rfl, Or.inr (Or.inr (Or.inl rfl)), _, rfl⟩) hc hs q
theorem iloadN (P : Pos p l e R s m args below meth c Z own nm bytes maxL ret n0 T h cells slots) {j : Fin 4} {v : Int32} (hd : decode bytes pc = .ok (.iload_n j, 1)) (hl : Ls[j.val]? = some (.val (.int v))) (hn : n = pc + 1)
    (E : Ends p e below s R n0 Q T (mkF m n Ls (.int v :: st))) : Ends p e below s R n0 Q T (mkF m pc Ls st) := by
  subst hn; exact E.via fun t k => XS.iloadN P.here P.hx rfl (hb P.code hd) hl k
theorem iload (P : Pos p l e R s m args below meth c Z own nm bytes maxL ret n0 T h cells slots) {j : Nat} {v : Int32} (hd : decode bytes pc = .ok (.iload j, 2)) (hl : Ls[j]? = some (.val (.int v))) (hn : n = pc + 2)
    (E : Ends p e below s R n0 Q T (mkF m n Ls (.int v :: st))) : Ends p e below s R n0 Q T (mkF m pc Ls st) := by
  subst hn; exact E.via fun t k => XS.iload P.here P.hx rfl (hb P.code hd) hl k
theorem istoreN (P : Pos p l e R s m args below meth c Z own nm bytes maxL ret n0 T h cells slots) {j : Fin 4} {v : Int32} {l' : Array Slot} (hd : decode bytes pc = .ok (.istore_n j, 1)) (hl : storeLocals Ls j.val (.int v) = some l') (hn : n = pc + 1)
    (E : Ends p e below s R n0 Q T (mkF m n l' st)) : Ends p e below s R n0 Q T (mkF m pc Ls (.int v :: st)) := by
  subst hn; exact E.via fun t k => XS.istoreN P.here P.hx rfl (hb P.code hd) rfl hl k
theorem istore (P : Pos p l e R s m args below meth c Z own nm bytes maxL ret n0 T h cells slots) {j : Nat} {v : Int32} {l' : Array Slot} (hd : decode bytes pc = .ok (.istore j, 2)) (hl : storeLocals Ls j (.int v) = some l') (hn : n = pc + 2)
    (E : Ends p e below s R n0 Q T (mkF m n l' st)) : Ends p e below s R n0 Q T (mkF m pc Ls (.int v :: st)) := by
  subst hn; exact E.via fun t k => XS.istore P.here P.hx rfl (hb P.code hd) rfl hl k
theorem lloadN (P : Pos p l e R s m args below meth c Z own nm bytes maxL ret n0 T h cells slots) {j : Fin 4} {v : Int64} (hd : decode bytes pc = .ok (.lload_n j, 1)) (hl : Ls[j.val]? = some (.val (.long v))) (hn : n = pc + 1)
    (E : Ends p e below s R n0 Q T (mkF m n Ls (.long v :: st))) : Ends p e below s R n0 Q T (mkF m pc Ls st) := by
  subst hn; exact E.via fun t k => XS.lloadN P.here P.hx rfl (hb P.code hd) hl k
theorem lload (P : Pos p l e R s m args below meth c Z own nm bytes maxL ret n0 T h cells slots) {j : Nat} {v : Int64} (hd : decode bytes pc = .ok (.lload j, 2)) (hl : Ls[j]? = some (.val (.long v))) (hn : n = pc + 2)
    (E : Ends p e below s R n0 Q T (mkF m n Ls (.long v :: st))) : Ends p e below s R n0 Q T (mkF m pc Ls st) := by
  subst hn; exact E.via fun t k => XS.lload P.here P.hx rfl (hb P.code hd) hl k
theorem lstoreN (P : Pos p l e R s m args below meth c Z own nm bytes maxL ret n0 T h cells slots) {j : Fin 4} {v : Int64} {l' : Array Slot} (hd : decode bytes pc = .ok (.lstore_n j, 1)) (hl : storeLocals Ls j.val (.long v) = some l') (hn : n = pc + 1)
    (E : Ends p e below s R n0 Q T (mkF m n l' st)) : Ends p e below s R n0 Q T (mkF m pc Ls (.long v :: st)) := by
  subst hn; exact E.via fun t k => XS.lstoreN P.here P.hx rfl (hb P.code hd) rfl hl k
theorem lstore (P : Pos p l e R s m args below meth c Z own nm bytes maxL ret n0 T h cells slots) {j : Nat} {v : Int64} {l' : Array Slot} (hd : decode bytes pc = .ok (.lstore j, 2)) (hl : storeLocals Ls j (.long v) = some l') (hn : n = pc + 2)
    (E : Ends p e below s R n0 Q T (mkF m n l' st)) : Ends p e below s R n0 Q T (mkF m pc Ls (.long v :: st)) := by
  subst hn; exact E.via fun t k => XS.lstore P.here P.hx rfl (hb P.code hd) rfl hl k
theorem aloadN (P : Pos p l e R s m args below meth c Z own nm bytes maxL ret n0 T h cells slots) {j : Fin 4} {v : Value} (hd : decode bytes pc = .ok (.aload_n j, 1)) (hl : Ls[j.val]? = some (.val v)) (hv : v.isRef = true) (hn : n = pc + 1)
    (E : Ends p e below s R n0 Q T (mkF m n Ls (v :: st))) : Ends p e below s R n0 Q T (mkF m pc Ls st) := by
  subst hn; exact E.via fun t k => XS.aloadN P.here P.hx rfl (hb P.code hd) hl hv k
theorem aload (P : Pos p l e R s m args below meth c Z own nm bytes maxL ret n0 T h cells slots) {j : Nat} {v : Value} (hd : decode bytes pc = .ok (.aload j, 2)) (hl : Ls[j]? = some (.val v)) (hv : v.isRef = true) (hn : n = pc + 2)
    (E : Ends p e below s R n0 Q T (mkF m n Ls (v :: st))) : Ends p e below s R n0 Q T (mkF m pc Ls st) := by
  subst hn; exact E.via fun t k => XS.aload P.here P.hx rfl (hb P.code hd) hl hv k
theorem astoreN (P : Pos p l e R s m args below meth c Z own nm bytes maxL ret n0 T h cells slots) {j : Fin 4} {v : Value} {l' : Array Slot} (hd : decode bytes pc = .ok (.astore_n j, 1)) (hv : v.isRef = true) (hl : storeLocals Ls j.val v = some l') (hn : n = pc + 1)
    (E : Ends p e below s R n0 Q T (mkF m n l' st)) : Ends p e below s R n0 Q T (mkF m pc Ls (v :: st)) := by
  subst hn; exact E.via fun t k => XS.astoreN P.here P.hx rfl (hb P.code hd) rfl hv hl k
theorem astore (P : Pos p l e R s m args below meth c Z own nm bytes maxL ret n0 T h cells slots) {j : Nat} {v : Value} {l' : Array Slot} (hd : decode bytes pc = .ok (.astore j, 2)) (hv : v.isRef = true) (hl : storeLocals Ls j v = some l') (hn : n = pc + 2)
    (E : Ends p e below s R n0 Q T (mkF m n l' st)) : Ends p e below s R n0 Q T (mkF m pc Ls (v :: st)) := by
  subst hn; exact E.via fun t k => XS.astore P.here P.hx rfl (hb P.code hd) rfl hv hl k
theorem iconst (P : Pos p l e R s m args below meth c Z own nm bytes maxL ret n0 T h cells slots) {i : Int} (hd : decode bytes pc = .ok (.iconst i, 1)) {x : Int32} (hx : x = Int32.ofInt i) (hn : n = pc + 1)
    (E : Ends p e below s R n0 Q T (mkF m n Ls (.int x :: st))) : Ends p e below s R n0 Q T (mkF m pc Ls st) := by
  subst hn; exact E.via fun t k => XS.iconst P.here P.hx rfl (hb P.code hd) (by subst hx; exact k)
theorem bipush (P : Pos p l e R s m args below meth c Z own nm bytes maxL ret n0 T h cells slots) {i : Int} (hd : decode bytes pc = .ok (.bipush i, 2)) {x : Int32} (hx : x = (Int8.ofInt i).toInt32) (hn : n = pc + 2)
    (E : Ends p e below s R n0 Q T (mkF m n Ls (.int x :: st))) : Ends p e below s R n0 Q T (mkF m pc Ls st) := by
  subst hn; exact E.via fun t k => XS.bipush P.here P.hx rfl (hb P.code hd) (by subst hx; exact k)
theorem sipush (P : Pos p l e R s m args below meth c Z own nm bytes maxL ret n0 T h cells slots) {i : Int} (hd : decode bytes pc = .ok (.sipush i, 3)) {x : Int32} (hx : x = (Int16.ofInt i).toInt32) (hn : n = pc + 3)
    (E : Ends p e below s R n0 Q T (mkF m n Ls (.int x :: st))) : Ends p e below s R n0 Q T (mkF m pc Ls st) := by
  subst hn; exact E.via fun t k => XS.sipush P.here P.hx rfl (hb P.code hd) (by subst hx; exact k)
theorem lconst (P : Pos p l e R s m args below meth c Z own nm bytes maxL ret n0 T h cells slots) {i : Fin 2} (hd : decode bytes pc = .ok (.lconst i, 1)) {x : Int64} (hx : x = Int64.ofNat i) (hn : n = pc + 1)
    (E : Ends p e below s R n0 Q T (mkF m n Ls (.long x :: st))) : Ends p e below s R n0 Q T (mkF m pc Ls st) := by
  subst hn; exact E.via fun t k => XS.lconst P.here P.hx rfl (hb P.code hd) (by subst hx; exact k)
theorem aconstNull (P : Pos p l e R s m args below meth c Z own nm bytes maxL ret n0 T h cells slots) (hd : decode bytes pc = .ok (.aconst_null, 1)) (hn : n = pc + 1)
    (E : Ends p e below s R n0 Q T (mkF m n Ls (.null :: st))) : Ends p e below s R n0 Q T (mkF m pc Ls st) := by
  subst hn; exact E.via fun t k => XS.aconstNull P.here P.hx rfl (hb P.code hd) k
theorem iadd (P : Pos p l e R s m args below meth c Z own nm bytes maxL ret n0 T h cells slots) {x y : Int32} (hd : decode bytes pc = .ok (.iadd, 1)) (hn : n = pc + 1)
    (E : Ends p e below s R n0 Q T (mkF m n Ls (.int (x + y) :: st))) : Ends p e below s R n0 Q T (mkF m pc Ls (.int y :: .int x :: st)) := by
  subst hn; exact E.via fun t k => XS.iadd P.here P.hx rfl (hb P.code hd) rfl k
theorem isub (P : Pos p l e R s m args below meth c Z own nm bytes maxL ret n0 T h cells slots) {x y : Int32} (hd : decode bytes pc = .ok (.isub, 1)) (hn : n = pc + 1)
    (E : Ends p e below s R n0 Q T (mkF m n Ls (.int (x - y) :: st))) : Ends p e below s R n0 Q T (mkF m pc Ls (.int y :: .int x :: st)) := by
  subst hn; exact E.via fun t k => XS.isub P.here P.hx rfl (hb P.code hd) rfl k
theorem imul (P : Pos p l e R s m args below meth c Z own nm bytes maxL ret n0 T h cells slots) {x y : Int32} (hd : decode bytes pc = .ok (.imul, 1)) (hn : n = pc + 1)
    (E : Ends p e below s R n0 Q T (mkF m n Ls (.int (x * y) :: st))) : Ends p e below s R n0 Q T (mkF m pc Ls (.int y :: .int x :: st)) := by
  subst hn; exact E.via fun t k => XS.imul P.here P.hx rfl (hb P.code hd) rfl k
theorem iand (P : Pos p l e R s m args below meth c Z own nm bytes maxL ret n0 T h cells slots) {x y : Int32} (hd : decode bytes pc = .ok (.iand, 1)) (hn : n = pc + 1)
    (E : Ends p e below s R n0 Q T (mkF m n Ls (.int (x &&& y) :: st))) : Ends p e below s R n0 Q T (mkF m pc Ls (.int y :: .int x :: st)) := by
  subst hn; exact E.via fun t k => XS.iand P.here P.hx rfl (hb P.code hd) rfl k
theorem ior (P : Pos p l e R s m args below meth c Z own nm bytes maxL ret n0 T h cells slots) {x y : Int32} (hd : decode bytes pc = .ok (.ior, 1)) (hn : n = pc + 1)
    (E : Ends p e below s R n0 Q T (mkF m n Ls (.int (x ||| y) :: st))) : Ends p e below s R n0 Q T (mkF m pc Ls (.int y :: .int x :: st)) := by
  subst hn; exact E.via fun t k => XS.ior P.here P.hx rfl (hb P.code hd) rfl k
theorem ixor (P : Pos p l e R s m args below meth c Z own nm bytes maxL ret n0 T h cells slots) {x y : Int32} (hd : decode bytes pc = .ok (.ixor, 1)) (hn : n = pc + 1)
    (E : Ends p e below s R n0 Q T (mkF m n Ls (.int (x ^^^ y) :: st))) : Ends p e below s R n0 Q T (mkF m pc Ls (.int y :: .int x :: st)) := by
  subst hn; exact E.via fun t k => XS.ixor P.here P.hx rfl (hb P.code hd) rfl k
theorem ladd (P : Pos p l e R s m args below meth c Z own nm bytes maxL ret n0 T h cells slots) {x y : Int64} (hd : decode bytes pc = .ok (.ladd, 1)) (hn : n = pc + 1)
    (E : Ends p e below s R n0 Q T (mkF m n Ls (.long (x + y) :: st))) : Ends p e below s R n0 Q T (mkF m pc Ls (.long y :: .long x :: st)) := by
  subst hn; exact E.via fun t k => XS.ladd P.here P.hx rfl (hb P.code hd) rfl k
theorem lsub (P : Pos p l e R s m args below meth c Z own nm bytes maxL ret n0 T h cells slots) {x y : Int64} (hd : decode bytes pc = .ok (.lsub, 1)) (hn : n = pc + 1)
    (E : Ends p e below s R n0 Q T (mkF m n Ls (.long (x - y) :: st))) : Ends p e below s R n0 Q T (mkF m pc Ls (.long y :: .long x :: st)) := by
  subst hn; exact E.via fun t k => XS.lsub P.here P.hx rfl (hb P.code hd) rfl k
theorem lmul (P : Pos p l e R s m args below meth c Z own nm bytes maxL ret n0 T h cells slots) {x y : Int64} (hd : decode bytes pc = .ok (.lmul, 1)) (hn : n = pc + 1)
    (E : Ends p e below s R n0 Q T (mkF m n Ls (.long (x * y) :: st))) : Ends p e below s R n0 Q T (mkF m pc Ls (.long y :: .long x :: st)) := by
  subst hn; exact E.via fun t k => XS.lmul P.here P.hx rfl (hb P.code hd) rfl k
theorem land (P : Pos p l e R s m args below meth c Z own nm bytes maxL ret n0 T h cells slots) {x y : Int64} (hd : decode bytes pc = .ok (.land, 1)) (hn : n = pc + 1)
    (E : Ends p e below s R n0 Q T (mkF m n Ls (.long (x &&& y) :: st))) : Ends p e below s R n0 Q T (mkF m pc Ls (.long y :: .long x :: st)) := by
  subst hn; exact E.via fun t k => XS.land P.here P.hx rfl (hb P.code hd) rfl k
theorem lor (P : Pos p l e R s m args below meth c Z own nm bytes maxL ret n0 T h cells slots) {x y : Int64} (hd : decode bytes pc = .ok (.lor, 1)) (hn : n = pc + 1)
    (E : Ends p e below s R n0 Q T (mkF m n Ls (.long (x ||| y) :: st))) : Ends p e below s R n0 Q T (mkF m pc Ls (.long y :: .long x :: st)) := by
  subst hn; exact E.via fun t k => XS.lor P.here P.hx rfl (hb P.code hd) rfl k
theorem lxor (P : Pos p l e R s m args below meth c Z own nm bytes maxL ret n0 T h cells slots) {x y : Int64} (hd : decode bytes pc = .ok (.lxor, 1)) (hn : n = pc + 1)
    (E : Ends p e below s R n0 Q T (mkF m n Ls (.long (x ^^^ y) :: st))) : Ends p e below s R n0 Q T (mkF m pc Ls (.long y :: .long x :: st)) := by
  subst hn; exact E.via fun t k => XS.lxor P.here P.hx rfl (hb P.code hd) rfl k
theorem ishl (P : Pos p l e R s m args below meth c Z own nm bytes maxL ret n0 T h cells slots) {x y : Int32} (hd : decode bytes pc = .ok (.ishl, 1)) (hn : n = pc + 1)
    (E : Ends p e below s R n0 Q T (mkF m n Ls (.int (x <<< (y &&& 31)) :: st))) : Ends p e below s R n0 Q T (mkF m pc Ls (.int y :: .int x :: st)) := by
  subst hn; exact E.via fun t k => XS.ishl P.here P.hx rfl (hb P.code hd) rfl k
theorem ishr (P : Pos p l e R s m args below meth c Z own nm bytes maxL ret n0 T h cells slots) {x y : Int32} (hd : decode bytes pc = .ok (.ishr, 1)) (hn : n = pc + 1)
    (E : Ends p e below s R n0 Q T (mkF m n Ls (.int (x >>> (y &&& 31)) :: st))) : Ends p e below s R n0 Q T (mkF m pc Ls (.int y :: .int x :: st)) := by
  subst hn; exact E.via fun t k => XS.ishr P.here P.hx rfl (hb P.code hd) rfl k
theorem iushr (P : Pos p l e R s m args below meth c Z own nm bytes maxL ret n0 T h cells slots) {x y : Int32} (hd : decode bytes pc = .ok (.iushr, 1)) (hn : n = pc + 1)
    (E : Ends p e below s R n0 Q T (mkF m n Ls (.int ((x.toUInt32 >>> (y &&& 31).toUInt32).toInt32) :: st))) : Ends p e below s R n0 Q T (mkF m pc Ls (.int y :: .int x :: st)) := by
  subst hn; exact E.via fun t k => XS.iushr P.here P.hx rfl (hb P.code hd) rfl k
theorem lshl (P : Pos p l e R s m args below meth c Z own nm bytes maxL ret n0 T h cells slots) {x : Int64} {y : Int32} (hd : decode bytes pc = .ok (.lshl, 1)) (hn : n = pc + 1)
    (E : Ends p e below s R n0 Q T (mkF m n Ls (.long (x <<< (y &&& 0x3f).toInt64) :: st))) : Ends p e below s R n0 Q T (mkF m pc Ls (.int y :: .long x :: st)) := by
  subst hn; exact E.via fun t k => XS.lshl P.here P.hx rfl (hb P.code hd) rfl k
theorem lshr (P : Pos p l e R s m args below meth c Z own nm bytes maxL ret n0 T h cells slots) {x : Int64} {y : Int32} (hd : decode bytes pc = .ok (.lshr, 1)) (hn : n = pc + 1)
    (E : Ends p e below s R n0 Q T (mkF m n Ls (.long (x >>> (y &&& 0x3f).toInt64) :: st))) : Ends p e below s R n0 Q T (mkF m pc Ls (.int y :: .long x :: st)) := by
  subst hn; exact E.via fun t k => XS.lshr P.here P.hx rfl (hb P.code hd) rfl k
theorem lushr (P : Pos p l e R s m args below meth c Z own nm bytes maxL ret n0 T h cells slots) {x : Int64} {y : Int32} (hd : decode bytes pc = .ok (.lushr, 1)) (hn : n = pc + 1)
    (E : Ends p e below s R n0 Q T (mkF m n Ls (.long ((x.toUInt64 >>> (y &&& 0x3f).toInt64.toUInt64).toInt64) :: st))) : Ends p e below s R n0 Q T (mkF m pc Ls (.int y :: .long x :: st)) := by
  subst hn; exact E.via fun t k => XS.lushr P.here P.hx rfl (hb P.code hd) rfl k
theorem idiv (P : Pos p l e R s m args below meth c Z own nm bytes maxL ret n0 T h cells slots) {x y : Int32} (hd : decode bytes pc = .ok (.idiv, 1)) (hy : y ≠ 0) (hn : n = pc + 1)
    (E : Ends p e below s R n0 Q T (mkF m n Ls (.int (x / y) :: st))) : Ends p e below s R n0 Q T (mkF m pc Ls (.int y :: .int x :: st)) := by
  subst hn; exact E.via fun t k => XS.idiv P.here P.hx rfl (hb P.code hd) rfl hy k
theorem irem (P : Pos p l e R s m args below meth c Z own nm bytes maxL ret n0 T h cells slots) {x y : Int32} (hd : decode bytes pc = .ok (.irem, 1)) (hy : y ≠ 0) (hn : n = pc + 1)
    (E : Ends p e below s R n0 Q T (mkF m n Ls (.int (x % y) :: st))) : Ends p e below s R n0 Q T (mkF m pc Ls (.int y :: .int x :: st)) := by
  subst hn; obtain ⟨_, X, -⟩ := P.stand; exact E.via fun t k => Jvm.RoadKit.iremM X P.hx rfl (hb P.code hd) rfl hy k
theorem ldiv (P : Pos p l e R s m args below meth c Z own nm bytes maxL ret n0 T h cells slots) {x y : Int64} (hd : decode bytes pc = .ok (.ldiv, 1)) (hy : y ≠ 0) (hn : n = pc + 1)
    (E : Ends p e below s R n0 Q T (mkF m n Ls (.long (x / y) :: st))) : Ends p e below s R n0 Q T (mkF m pc Ls (.long y :: .long x :: st)) := by
  subst hn; exact E.via fun t k => XS.ldiv P.here P.hx rfl (hb P.code hd) rfl hy k
theorem lrem (P : Pos p l e R s m args below meth c Z own nm bytes maxL ret n0 T h cells slots) {x y : Int64} (hd : decode bytes pc = .ok (.lrem, 1)) (hy : y ≠ 0) (hn : n = pc + 1)
    (E : Ends p e below s R n0 Q T (mkF m n Ls (.long (x - (x / y) * y) :: st))) : Ends p e below s R n0 Q T (mkF m pc Ls (.long y :: .long x :: st)) := by
  subst hn; exact E.via fun t k => XS.lrem P.here P.hx rfl (hb P.code hd) rfl hy k
theorem ineg (P : Pos p l e R s m args below meth c Z own nm bytes maxL ret n0 T h cells slots) {x : Int32} (hd : decode bytes pc = .ok (.ineg, 1)) (hn : n = pc + 1)
    (E : Ends p e below s R n0 Q T (mkF m n Ls (.int (-x) :: st))) : Ends p e below s R n0 Q T (mkF m pc Ls (.int x :: st)) := by
  subst hn; exact E.via fun t k => XS.ineg P.here P.hx rfl (hb P.code hd) rfl k
theorem lneg (P : Pos p l e R s m args below meth c Z own nm bytes maxL ret n0 T h cells slots) {x : Int64} (hd : decode bytes pc = .ok (.lneg, 1)) (hn : n = pc + 1)
    (E : Ends p e below s R n0 Q T (mkF m n Ls (.long (-x) :: st))) : Ends p e below s R n0 Q T (mkF m pc Ls (.long x :: st)) := by
  subst hn; exact E.via fun t k => XS.lneg P.here P.hx rfl (hb P.code hd) rfl k
theorem i2l (P : Pos p l e R s m args below meth c Z own nm bytes maxL ret n0 T h cells slots) {x : Int32} (hd : decode bytes pc = .ok (.i2l, 1)) (hn : n = pc + 1)
    (E : Ends p e below s R n0 Q T (mkF m n Ls (.long (x.toInt64) :: st))) : Ends p e below s R n0 Q T (mkF m pc Ls (.int x :: st)) := by
  subst hn; exact E.via fun t k => XS.i2l P.here P.hx rfl (hb P.code hd) rfl k
theorem l2i (P : Pos p l e R s m args below meth c Z own nm bytes maxL ret n0 T h cells slots) {x : Int64} (hd : decode bytes pc = .ok (.l2i, 1)) (hn : n = pc + 1)
    (E : Ends p e below s R n0 Q T (mkF m n Ls (.int (x.toInt32) :: st))) : Ends p e below s R n0 Q T (mkF m pc Ls (.long x :: st)) := by
  subst hn; exact E.via fun t k => XS.l2i P.here P.hx rfl (hb P.code hd) rfl k
theorem i2b (P : Pos p l e R s m args below meth c Z own nm bytes maxL ret n0 T h cells slots) {x : Int32} (hd : decode bytes pc = .ok (.i2b, 1)) (hn : n = pc + 1)
    (E : Ends p e below s R n0 Q T (mkF m n Ls (.int (x.toInt8.toInt32) :: st))) : Ends p e below s R n0 Q T (mkF m pc Ls (.int x :: st)) := by
  subst hn; exact E.via fun t k => XS.i2b P.here P.hx rfl (hb P.code hd) rfl k
theorem i2s (P : Pos p l e R s m args below meth c Z own nm bytes maxL ret n0 T h cells slots) {x : Int32} (hd : decode bytes pc = .ok (.i2s, 1)) (hn : n = pc + 1)
    (E : Ends p e below s R n0 Q T (mkF m n Ls (.int (x.toInt16.toInt32) :: st))) : Ends p e below s R n0 Q T (mkF m pc Ls (.int x :: st)) := by
  subst hn; exact E.via fun t k => XS.i2s P.here P.hx rfl (hb P.code hd) rfl k
theorem i2c (P : Pos p l e R s m args below meth c Z own nm bytes maxL ret n0 T h cells slots) {x : Int32} (hd : decode bytes pc = .ok (.i2c, 1)) (hn : n = pc + 1)
    (E : Ends p e below s R n0 Q T (mkF m n Ls (.int (x.toUInt32.toUInt16.toUInt32.toInt32) :: st))) : Ends p e below s R n0 Q T (mkF m pc Ls (.int x :: st)) := by
  subst hn; exact E.via fun t k => XS.i2c P.here P.hx rfl (hb P.code hd) rfl k
theorem lcmp (P : Pos p l e R s m args below meth c Z own nm bytes maxL ret n0 T h cells slots) {x y : Int64} (hd : decode bytes pc = .ok (.lcmp, 1)) (hn : n = pc + 1)
    (E : Ends p e below s R n0 Q T (mkF m n Ls (.int (lcmpW x y) :: st))) : Ends p e below s R n0 Q T (mkF m pc Ls (.long y :: .long x :: st)) := by
  subst hn; exact E.via fun t k => XS.lcmp P.here P.hx rfl (hb P.code hd) rfl k
theorem iinc (P : Pos p l e R s m args below meth c Z own nm bytes maxL ret n0 T h cells slots) {j : Nat} {cst : Int} {x : Int32} {l' : Array Slot} (hd : decode bytes pc = .ok (.iinc j cst, 3)) {y : Int32} (hl : Ls[j]? = some (.val (.int x))) (hy : y = Int32.ofInt cst) (hl' : storeLocals Ls j (.int (x + Int32.ofInt cst)) = some l') (hn : n = pc + 3)
    (E : Ends p e below s R n0 Q T (mkF m n l' st)) : Ends p e below s R n0 Q T (mkF m pc Ls st) := by
  subst hn; exact E.via fun t k => XS.iinc P.here P.hx rfl (hb P.code hd) hl hl' k
theorem dup (P : Pos p l e R s m args below meth c Z own nm bytes maxL ret n0 T h cells slots) {x : Value} (hd : decode bytes pc = .ok (.dup, 1)) (hc : x.category = 1) (hn : n = pc + 1)
    (E : Ends p e below s R n0 Q T (mkF m n Ls (x :: x :: st))) : Ends p e below s R n0 Q T (mkF m pc Ls (x :: st)) := by
  subst hn; exact E.via fun t k => XS.dup P.here P.hx rfl (hb P.code hd) rfl hc k
theorem dupX1 (P : Pos p l e R s m args below meth c Z own nm bytes maxL ret n0 T h cells slots) {x y : Value} (hd : decode bytes pc = .ok (.dup_x1, 1)) (hc : x.category = 1) (hc' : y.category = 1) (hn : n = pc + 1)
    (E : Ends p e below s R n0 Q T (mkF m n Ls (x :: y :: x :: st))) : Ends p e below s R n0 Q T (mkF m pc Ls (x :: y :: st)) := by
  subst hn; exact E.via fun t k => XS.dupX1 P.here P.hx rfl (hb P.code hd) rfl hc hc' k
theorem dupD (P : Pos p l e R s m args below meth c Z own nm bytes maxL ret n0 T h cells slots) {x y : Value} (hd : decode bytes pc = .ok (.dup2, 1)) (hc : x.category = 1) (hc' : y.category = 1) (hn : n = pc + 1)
    (E : Ends p e below s R n0 Q T (mkF m n Ls (x :: y :: x :: y :: st))) : Ends p e below s R n0 Q T (mkF m pc Ls (x :: y :: st)) := by
  subst hn; exact E.via fun t k => XT.dup2 P.here P.hx rfl (hb P.code hd) rfl hc hc' k
theorem popV (P : Pos p l e R s m args below meth c Z own nm bytes maxL ret n0 T h cells slots) {x : Value} (hd : decode bytes pc = .ok (.pop, 1)) (hc : x.category = 1) (hn : n = pc + 1)
    (E : Ends p e below s R n0 Q T (mkF m n Ls st)) : Ends p e below s R n0 Q T (mkF m pc Ls (x :: st)) := by
  subst hn; exact E.via fun t k => XS.pop P.here P.hx rfl (hb P.code hd) rfl hc k
theorem goto {o : Int} (P : Pos p l e R s m args below meth c Z own nm bytes maxL ret n0 T h cells slots) (hd : decode bytes pc = .ok (.goto o, 3)) (ho : 0 ≤ (pc : Int) + o ∧ ((pc : Int) + o).toNat = n) (E : Ends p e below s R n0 Q T (mkF m n Ls st)) : Ends p e below s R n0 Q T (mkF m pc Ls st) :=
  E.via fun t k => XS.goto P.here P.hx rfl (pc0 := pc) (pc' := n) rfl (hb P.code hd) ho.1 ho.2 k
theorem icmpB {cd : ClassFile.Cond} {o : Int} {x y : Int32} {n' : Nat} (P : Pos p l e R s m args below meth c Z own nm bytes maxL ret n0 T h cells slots) (hd : decode bytes pc = .ok (.if_icmp cd o, 3)) (ho : 0 ≤ (pc : Int) + o ∧ ((pc : Int) + o).toNat = n') (hn : n = pc + 3)
    (Et : if_icmp.holds cd x y = true → Ends p e below s R n0 Q T (mkF m n' Ls st)) (Ef : if_icmp.holds cd x y = false → Ends p e below s R n0 Q T (mkF m n Ls st)) : Ends p e below s R n0 Q T (mkF m pc Ls (.int y :: .int x :: st)) := by
  subst hn
  cases hq : if_icmp.holds cd x y with
  | true => exact (Et hq).via fun t k => XS.icmpYes P.here P.hx rfl (pc0 := pc) (pc' := n') rfl (hb P.code hd) rfl hq ho.1 ho.2 k
  | false => exact (Ef hq).via fun t k => XS.icmpNo P.here P.hx rfl (hb P.code hd) rfl hq k
theorem ifB {cd : ClassFile.Cond} {o : Int} {x : Int32} {n' : Nat} (P : Pos p l e R s m args below meth c Z own nm bytes maxL ret n0 T h cells slots) (hd : decode bytes pc = .ok (.ifCond cd o, 3)) (ho : 0 ≤ (pc : Int) + o ∧ ((pc : Int) + o).toNat = n') (hn : n = pc + 3)
    (Et : ifCond.holds cd x = true → Ends p e below s R n0 Q T (mkF m n' Ls st)) (Ef : ifCond.holds cd x = false → Ends p e below s R n0 Q T (mkF m n Ls st)) : Ends p e below s R n0 Q T (mkF m pc Ls (.int x :: st)) := by
  subst hn
  cases hq : ifCond.holds cd x with
  | true => exact (Et hq).via fun t k => XS.ifYes P.here P.hx rfl (pc0 := pc) (pc' := n') rfl (hb P.code hd) rfl hq ho.1 ho.2 k
  | false => exact (Ef hq).via fun t k => XS.ifNo P.here P.hx rfl (hb P.code hd) rfl hq k
theorem acmpB {cd : ACond} {o : Int} {x y : Value} {n' : Nat} (P : Pos p l e R s m args below meth c Z own nm bytes maxL ret n0 T h cells slots) (hd : decode bytes pc = .ok (.if_acmp cd o, 3)) (h1 : x.isRef = true) (h2 : y.isRef = true) (ho : 0 ≤ (pc : Int) + o ∧ ((pc : Int) + o).toNat = n') (hn : n = pc + 3)
    (Et : acV cd (decide (x = y)) = true → Ends p e below s R n0 Q T (mkF m n' Ls st)) (Ef : acV cd (decide (x = y)) = false → Ends p e below s R n0 Q T (mkF m n Ls st)) : Ends p e below s R n0 Q T (mkF m pc Ls (y :: x :: st)) := by
  subst hn
  obtain ⟨_, X, -⟩ := P.stand
  cases hq : acV cd (decide (x = y)) with
  | true => exact (Et hq).via fun t k => Jvm.RoadKit.acmp (g := mkF m pc Ls (y :: x :: st)) X P.hx rfl h1 h2 (pc0 := pc) (pc' := n') (same := decide (x = y)) rfl (hb P.code hd) rfl rfl ho.1 (by rw [hq]; simp [ho.2]) k
  | false => exact (Ef hq).via fun t k => Jvm.RoadKit.acmp (g := mkF m pc Ls (y :: x :: st)) X P.hx rfl h1 h2 (pc0 := pc) (pc' := pc + 3) (same := decide (x = y)) rfl (hb P.code hd) rfl rfl ho.1 (by rw [hq]; simp) k
/-! what the conditions say, in numbers -/
def cP (cd : ClassFile.Cond) (x y : Int) : Prop := match cd with | .eq => x = y | .ne => ¬ x = y | .lt => x < y | .ge => y ≤ x | .gt => y < x | .le => x ≤ y
theorem ii {cd : ClassFile.Cond} {x y : Int32} {b : Bool} (q : if_icmp.holds cd x y = b) : cP cd x.toInt y.toInt ↔ b = true := by
  subst q; cases cd <;> simp [cP, if_icmp.holds, Int32.lt_iff_toInt_lt, Int32.le_iff_toInt_le, Int32.toInt_inj]
theorem i0 {cd : ClassFile.Cond} {x : Int32} {b : Bool} (q : ifCond.holds cd x = b) : cP cd x.toInt 0 ↔ b = true := ii ((if0 cd x).symm.trans q)
theorem l0 {cd : ClassFile.Cond} {x y : Int64} {b : Bool} (q : ifCond.holds cd (lcmpW x y) = b) : cP cd x.toInt y.toInt ↔ b = true := by
  have h1 := i0 q
  obtain ⟨c1, c2, c3⟩ := c_lcmp x y
  rw [← h1]
  cases cd <;> simp only [cP] <;> (rcases Int.lt_trichotomy x.toInt y.toInt with g | g | g) <;> first | (have := c1 g; omega) | (have := c2 g; omega) | (have := c3 g; omega)
theorem icmp_eq {o : Int} {x y : Int32} {n' : Nat} (P : Pos p l e R s m args below meth c Z own nm bytes maxL ret n0 T h cells slots) (hd : decode bytes pc = .ok (.if_icmp .eq o, 3)) (ho : 0 ≤ (pc : Int) + o ∧ ((pc : Int) + o).toNat = n') (hn : n = pc + 3)
    (Et : x.toInt = y.toInt → Ends p e below s R n0 Q T (mkF m n' Ls st)) (Ef : ¬ x.toInt = y.toInt → Ends p e below s R n0 Q T (mkF m n Ls st)) : Ends p e below s R n0 Q T (mkF m pc Ls (.int y :: .int x :: st)) :=
  icmpB P hd ho hn (fun q => Et (by have := ii q; simp only [cP, iff_true] at this; exact this)) (fun q => Ef (by have := ii q; simp only [cP, Bool.false_eq_true, iff_false] at this; omega))
theorem if0_eq {o : Int} {x : Int32} {n' : Nat} (P : Pos p l e R s m args below meth c Z own nm bytes maxL ret n0 T h cells slots) (hd : decode bytes pc = .ok (.ifCond .eq o, 3)) (ho : 0 ≤ (pc : Int) + o ∧ ((pc : Int) + o).toNat = n') (hn : n = pc + 3)
    (Et : x.toInt = 0 → Ends p e below s R n0 Q T (mkF m n' Ls st)) (Ef : ¬ x.toInt = 0 → Ends p e below s R n0 Q T (mkF m n Ls st)) : Ends p e below s R n0 Q T (mkF m pc Ls (.int x :: st)) :=
  ifB P hd ho hn (fun q => Et (by have := i0 q; simp only [cP, iff_true] at this; exact this)) (fun q => Ef (by have := i0 q; simp only [cP, Bool.false_eq_true, iff_false] at this; omega))
theorem ifl_eq {o : Int} {x y : Int64} {n' : Nat} (P : Pos p l e R s m args below meth c Z own nm bytes maxL ret n0 T h cells slots) (hd : decode bytes pc = .ok (.ifCond .eq o, 3)) (ho : 0 ≤ (pc : Int) + o ∧ ((pc : Int) + o).toNat = n') (hn : n = pc + 3)
    (Et : x.toInt = y.toInt → Ends p e below s R n0 Q T (mkF m n' Ls st)) (Ef : ¬ x.toInt = y.toInt → Ends p e below s R n0 Q T (mkF m n Ls st)) : Ends p e below s R n0 Q T (mkF m pc Ls (.int (lcmpW x y) :: st)) :=
  ifB P hd ho hn (fun q => Et (by have := l0 q; simp only [cP, iff_true] at this; exact this)) (fun q => Ef (by have := l0 q; simp only [cP, Bool.false_eq_true, iff_false] at this; omega))
theorem icmp_ne {o : Int} {x y : Int32} {n' : Nat} (P : Pos p l e R s m args below meth c Z own nm bytes maxL ret n0 T h cells slots) (hd : decode bytes pc = .ok (.if_icmp .ne o, 3)) (ho : 0 ≤ (pc : Int) + o ∧ ((pc : Int) + o).toNat = n') (hn : n = pc + 3)
    (Et : ¬ x.toInt = y.toInt → Ends p e below s R n0 Q T (mkF m n' Ls st)) (Ef : x.toInt = y.toInt → Ends p e below s R n0 Q T (mkF m n Ls st)) : Ends p e below s R n0 Q T (mkF m pc Ls (.int y :: .int x :: st)) :=
  icmpB P hd ho hn (fun q => Et (by have := ii q; simp only [cP, iff_true] at this; exact this)) (fun q => Ef (by have := ii q; simp only [cP, Bool.false_eq_true, iff_false] at this; omega))
theorem if0_ne {o : Int} {x : Int32} {n' : Nat} (P : Pos p l e R s m args below meth c Z own nm bytes maxL ret n0 T h cells slots) (hd : decode bytes pc = .ok (.ifCond .ne o, 3)) (ho : 0 ≤ (pc : Int) + o ∧ ((pc : Int) + o).toNat = n') (hn : n = pc + 3)
    (Et : ¬ x.toInt = 0 → Ends p e below s R n0 Q T (mkF m n' Ls st)) (Ef : x.toInt = 0 → Ends p e below s R n0 Q T (mkF m n Ls st)) : Ends p e below s R n0 Q T (mkF m pc Ls (.int x :: st)) :=
  ifB P hd ho hn (fun q => Et (by have := i0 q; simp only [cP, iff_true] at this; exact this)) (fun q => Ef (by have := i0 q; simp only [cP, Bool.false_eq_true, iff_false] at this; omega))
theorem ifl_ne {o : Int} {x y : Int64} {n' : Nat} (P : Pos p l e R s m args below meth c Z own nm bytes maxL ret n0 T h cells slots) (hd : decode bytes pc = .ok (.ifCond .ne o, 3)) (ho : 0 ≤ (pc : Int) + o ∧ ((pc : Int) + o).toNat = n') (hn : n = pc + 3)
    (Et : ¬ x.toInt = y.toInt → Ends p e below s R n0 Q T (mkF m n' Ls st)) (Ef : x.toInt = y.toInt → Ends p e below s R n0 Q T (mkF m n Ls st)) : Ends p e below s R n0 Q T (mkF m pc Ls (.int (lcmpW x y) :: st)) :=
  ifB P hd ho hn (fun q => Et (by have := l0 q; simp only [cP, iff_true] at this; exact this)) (fun q => Ef (by have := l0 q; simp only [cP, Bool.false_eq_true, iff_false] at this; omega))
theorem icmp_lt {o : Int} {x y : Int32} {n' : Nat} (P : Pos p l e R s m args below meth c Z own nm bytes maxL ret n0 T h cells slots) (hd : decode bytes pc = .ok (.if_icmp .lt o, 3)) (ho : 0 ≤ (pc : Int) + o ∧ ((pc : Int) + o).toNat = n') (hn : n = pc + 3)
    (Et : x.toInt < y.toInt → Ends p e below s R n0 Q T (mkF m n' Ls st)) (Ef : y.toInt ≤ x.toInt → Ends p e below s R n0 Q T (mkF m n Ls st)) : Ends p e below s R n0 Q T (mkF m pc Ls (.int y :: .int x :: st)) :=
  icmpB P hd ho hn (fun q => Et (by have := ii q; simp only [cP, iff_true] at this; exact this)) (fun q => Ef (by have := ii q; simp only [cP, Bool.false_eq_true, iff_false] at this; omega))
theorem if0_lt {o : Int} {x : Int32} {n' : Nat} (P : Pos p l e R s m args below meth c Z own nm bytes maxL ret n0 T h cells slots) (hd : decode bytes pc = .ok (.ifCond .lt o, 3)) (ho : 0 ≤ (pc : Int) + o ∧ ((pc : Int) + o).toNat = n') (hn : n = pc + 3)
    (Et : x.toInt < 0 → Ends p e below s R n0 Q T (mkF m n' Ls st)) (Ef : 0 ≤ x.toInt → Ends p e below s R n0 Q T (mkF m n Ls st)) : Ends p e below s R n0 Q T (mkF m pc Ls (.int x :: st)) :=
  ifB P hd ho hn (fun q => Et (by have := i0 q; simp only [cP, iff_true] at this; exact this)) (fun q => Ef (by have := i0 q; simp only [cP, Bool.false_eq_true, iff_false] at this; omega))
theorem ifl_lt {o : Int} {x y : Int64} {n' : Nat} (P : Pos p l e R s m args below meth c Z own nm bytes maxL ret n0 T h cells slots) (hd : decode bytes pc = .ok (.ifCond .lt o, 3)) (ho : 0 ≤ (pc : Int) + o ∧ ((pc : Int) + o).toNat = n') (hn : n = pc + 3)
    (Et : x.toInt < y.toInt → Ends p e below s R n0 Q T (mkF m n' Ls st)) (Ef : y.toInt ≤ x.toInt → Ends p e below s R n0 Q T (mkF m n Ls st)) : Ends p e below s R n0 Q T (mkF m pc Ls (.int (lcmpW x y) :: st)) :=
  ifB P hd ho hn (fun q => Et (by have := l0 q; simp only [cP, iff_true] at this; exact this)) (fun q => Ef (by have := l0 q; simp only [cP, Bool.false_eq_true, iff_false] at this; omega))
theorem icmp_ge {o : Int} {x y : Int32} {n' : Nat} (P : Pos p l e R s m args below meth c Z own nm bytes maxL ret n0 T h cells slots) (hd : decode bytes pc = .ok (.if_icmp .ge o, 3)) (ho : 0 ≤ (pc : Int) + o ∧ ((pc : Int) + o).toNat = n') (hn : n = pc + 3)
    (Et : y.toInt ≤ x.toInt → Ends p e below s R n0 Q T (mkF m n' Ls st)) (Ef : x.toInt < y.toInt → Ends p e below s R n0 Q T (mkF m n Ls st)) : Ends p e below s R n0 Q T (mkF m pc Ls (.int y :: .int x :: st)) :=
  icmpB P hd ho hn (fun q => Et (by have := ii q; simp only [cP, iff_true] at this; exact this)) (fun q => Ef (by have := ii q; simp only [cP, Bool.false_eq_true, iff_false] at this; omega))
theorem if0_ge {o : Int} {x : Int32} {n' : Nat} (P : Pos p l e R s m args below meth c Z own nm bytes maxL ret n0 T h cells slots) (hd : decode bytes pc = .ok (.ifCond .ge o, 3)) (ho : 0 ≤ (pc : Int) + o ∧ ((pc : Int) + o).toNat = n') (hn : n = pc + 3)
    (Et : 0 ≤ x.toInt → Ends p e below s R n0 Q T (mkF m n' Ls st)) (Ef : x.toInt < 0 → Ends p e below s R n0 Q T (mkF m n Ls st)) : Ends p e below s R n0 Q T (mkF m pc Ls (.int x :: st)) :=
  ifB P hd ho hn (fun q => Et (by have := i0 q; simp only [cP, iff_true] at this; exact this)) (fun q => Ef (by have := i0 q; simp only [cP, Bool.false_eq_true, iff_false] at this; omega))
theorem ifl_ge {o : Int} {x y : Int64} {n' : Nat} (P : Pos p l e R s m args below meth c Z own nm bytes maxL ret n0 T h cells slots) (hd : decode bytes pc = .ok (.ifCond .ge o, 3)) (ho : 0 ≤ (pc : Int) + o ∧ ((pc : Int) + o).toNat = n') (hn : n = pc + 3)
    (Et : y.toInt ≤ x.toInt → Ends p e below s R n0 Q T (mkF m n' Ls st)) (Ef : x.toInt < y.toInt → Ends p e below s R n0 Q T (mkF m n Ls st)) : Ends p e below s R n0 Q T (mkF m pc Ls (.int (lcmpW x y) :: st)) :=
  ifB P hd ho hn (fun q => Et (by have := l0 q; simp only [cP, iff_true] at this; exact this)) (fun q => Ef (by have := l0 q; simp only [cP, Bool.false_eq_true, iff_false] at this; omega))
theorem icmp_gt {o : Int} {x y : Int32} {n' : Nat} (P : Pos p l e R s m args below meth c Z own nm bytes maxL ret n0 T h cells slots) (hd : decode bytes pc = .ok (.if_icmp .gt o, 3)) (ho : 0 ≤ (pc : Int) + o ∧ ((pc : Int) + o).toNat = n') (hn : n = pc + 3)
    (Et : y.toInt < x.toInt → Ends p e below s R n0 Q T (mkF m n' Ls st)) (Ef : x.toInt ≤ y.toInt → Ends p e below s R n0 Q T (mkF m n Ls st)) : Ends p e below s R n0 Q T (mkF m pc Ls (.int y :: .int x :: st)) :=
  icmpB P hd ho hn (fun q => Et (by have := ii q; simp only [cP, iff_true] at this; exact this)) (fun q => Ef (by have := ii q; simp only [cP, Bool.false_eq_true, iff_false] at this; omega))
theorem if0_gt {o : Int} {x : Int32} {n' : Nat} (P : Pos p l e R s m args below meth c Z own nm bytes maxL ret n0 T h cells slots) (hd : decode bytes pc = .ok (.ifCond .gt o, 3)) (ho : 0 ≤ (pc : Int) + o ∧ ((pc : Int) + o).toNat = n') (hn : n = pc + 3)
    (Et : 0 < x.toInt → Ends p e below s R n0 Q T (mkF m n' Ls st)) (Ef : x.toInt ≤ 0 → Ends p e below s R n0 Q T (mkF m n Ls st)) : Ends p e below s R n0 Q T (mkF m pc Ls (.int x :: st)) :=
  ifB P hd ho hn (fun q => Et (by have := i0 q; simp only [cP, iff_true] at this; exact this)) (fun q => Ef (by have := i0 q; simp only [cP, Bool.false_eq_true, iff_false] at this; omega))
theorem ifl_gt {o : Int} {x y : Int64} {n' : Nat} (P : Pos p l e R s m args below meth c Z own nm bytes maxL ret n0 T h cells slots) (hd : decode bytes pc = .ok (.ifCond .gt o, 3)) (ho : 0 ≤ (pc : Int) + o ∧ ((pc : Int) + o).toNat = n') (hn : n = pc + 3)
    (Et : y.toInt < x.toInt → Ends p e below s R n0 Q T (mkF m n' Ls st)) (Ef : x.toInt ≤ y.toInt → Ends p e below s R n0 Q T (mkF m n Ls st)) : Ends p e below s R n0 Q T (mkF m pc Ls (.int (lcmpW x y) :: st)) :=
  ifB P hd ho hn (fun q => Et (by have := l0 q; simp only [cP, iff_true] at this; exact this)) (fun q => Ef (by have := l0 q; simp only [cP, Bool.false_eq_true, iff_false] at this; omega))
theorem icmp_le {o : Int} {x y : Int32} {n' : Nat} (P : Pos p l e R s m args below meth c Z own nm bytes maxL ret n0 T h cells slots) (hd : decode bytes pc = .ok (.if_icmp .le o, 3)) (ho : 0 ≤ (pc : Int) + o ∧ ((pc : Int) + o).toNat = n') (hn : n = pc + 3)
    (Et : x.toInt ≤ y.toInt → Ends p e below s R n0 Q T (mkF m n' Ls st)) (Ef : y.toInt < x.toInt → Ends p e below s R n0 Q T (mkF m n Ls st)) : Ends p e below s R n0 Q T (mkF m pc Ls (.int y :: .int x :: st)) :=
  icmpB P hd ho hn (fun q => Et (by have := ii q; simp only [cP, iff_true] at this; exact this)) (fun q => Ef (by have := ii q; simp only [cP, Bool.false_eq_true, iff_false] at this; omega))
theorem if0_le {o : Int} {x : Int32} {n' : Nat} (P : Pos p l e R s m args below meth c Z own nm bytes maxL ret n0 T h cells slots) (hd : decode bytes pc = .ok (.ifCond .le o, 3)) (ho : 0 ≤ (pc : Int) + o ∧ ((pc : Int) + o).toNat = n') (hn : n = pc + 3)
    (Et : x.toInt ≤ 0 → Ends p e below s R n0 Q T (mkF m n' Ls st)) (Ef : 0 < x.toInt → Ends p e below s R n0 Q T (mkF m n Ls st)) : Ends p e below s R n0 Q T (mkF m pc Ls (.int x :: st)) :=
  ifB P hd ho hn (fun q => Et (by have := i0 q; simp only [cP, iff_true] at this; exact this)) (fun q => Ef (by have := i0 q; simp only [cP, Bool.false_eq_true, iff_false] at this; omega))
theorem ifl_le {o : Int} {x y : Int64} {n' : Nat} (P : Pos p l e R s m args below meth c Z own nm bytes maxL ret n0 T h cells slots) (hd : decode bytes pc = .ok (.ifCond .le o, 3)) (ho : 0 ≤ (pc : Int) + o ∧ ((pc : Int) + o).toNat = n') (hn : n = pc + 3)
    (Et : x.toInt ≤ y.toInt → Ends p e below s R n0 Q T (mkF m n' Ls st)) (Ef : y.toInt < x.toInt → Ends p e below s R n0 Q T (mkF m n Ls st)) : Ends p e below s R n0 Q T (mkF m pc Ls (.int (lcmpW x y) :: st)) :=
  ifB P hd ho hn (fun q => Et (by have := l0 q; simp only [cP, iff_true] at this; exact this)) (fun q => Ef (by have := l0 q; simp only [cP, Bool.false_eq_true, iff_false] at this; omega))
theorem aT {x y : Value} (q : acV .eq (decide (x = y)) = true) : x = y := by simpa [acV] using q
theorem aF {x y : Value} (q : acV .eq (decide (x = y)) = false) : ¬ x = y := by simpa [acV] using q
theorem nT {x y : Value} (q : acV .ne (decide (x = y)) = true) : ¬ x = y := by simpa [acV] using q
theorem nF {x y : Value} (q : acV .ne (decide (x = y)) = false) : x = y := by simpa [acV] using q
/-! constants, statics, fields, objects -/
theorem ldcI {index : Nat} {v : Int32} (P : Pos p l e R s m args below meth c Z own nm bytes maxL ret n0 T h cells slots) (hd : decode bytes pc = .ok (.ldc index, 2)) (w : (Cond.constant own index v).before a0 Z = true) (hn : n = pc + 2) (E : Ends p e below s R n0 Q T (mkF m n Ls (.int v :: st))) : Ends p e below s R n0 Q T (mkF m pc Ls st) := by
  subst hn; obtain ⟨_, X, -⟩ := P.stand
  exact E.via fun t k => X.ldcInt P.hx P.own' (mvT P.hZ w) (g := mkF m pc Ls st) rfl (hb P.code hd) t k
theorem ldc2J {index : Nat} {v : Int64} (P : Pos p l e R s m args below meth c Z own nm bytes maxL ret n0 T h cells slots) (hd : decode bytes pc = .ok (.ldc2_w index, 3)) (w : (Cond.constantLong own index v).before a0 Z = true) (hn : n = pc + 3) (E : Ends p e below s R n0 Q T (mkF m n Ls (.long v :: st))) : Ends p e below s R n0 Q T (mkF m pc Ls st) := by
  subst hn; obtain ⟨_, X, -⟩ := P.stand
  exact E.via fun t k => X.ldc2Long P.hx P.own' (mvT P.hZ w) (g := mkF m pc Ls st) rfl (hb P.code hd) t k
theorem getS {index : Nat} {O f d : String} {v : Value} (P : Pos p l e R s m args below meth c Z own nm bytes maxL ret n0 T h cells slots) (hd : decode bytes pc = .ok (.getstatic index, 3)) (w : (Cond.fieldLink own index O f d).before a0 Z = true) (F : Sta Z h O f d v) (hn : n = pc + 3)
    (E : ∀ T, Pos p l e R s m args below meth c Z own nm bytes maxL ret n0 T h cells slots → Ends p e below s R n0 Q T (mkF m n Ls (v :: st))) : Ends p e below s R n0 Q T (mkF m pc Ls st) := by
  subst hn; obtain ⟨_, X, N⟩ := P.stand
  obtain ⟨T', X', e', k⟩ := Jvm.RoadKit.getS (host := "") X P.hx P.hZ P.own' w Via.refl P.heap F (g := mkF m pc Ls st) rfl (hb P.code hd)
  exact (E T' (P.to X' N e')).via k
theorem getF {index : Nat} {O f d : String} {v : Value} {a : Addr} (P : Pos p l e R s m args below meth c Z own nm bytes maxL ret n0 T h cells slots) (hd : decode bytes pc = .ok (.getfield index, 3)) (w : (Cond.fieldLink own index O f d).before a0 Z = true) (F : Fld Z h a O f d v) (hn : n = pc + 3)
    (E : ∀ T, Pos p l e R s m args below meth c Z own nm bytes maxL ret n0 T h cells slots → Ends p e below s R n0 Q T (mkF m n Ls (v :: st))) : Ends p e below s R n0 Q T (mkF m pc Ls (.ref a :: st)) := by
  subst hn; obtain ⟨_, X, N⟩ := P.stand
  obtain ⟨T', X', e', k⟩ := Jvm.RoadKit.getF (host := "") X P.hx P.hZ P.own' (Or.inl w) Via.refl P.heap F (g := mkF m pc Ls (.ref a :: st)) rfl rfl (hb P.code hd)
  exact (E T' (P.to X' N e')).via k
theorem putF {index kk : Nat} {O f d C : String} {v old : Value} {a : Addr} {ty : FieldType} (P : Pos p l e R s m args below meth c Z own nm bytes maxL ret n0 T h cells slots) (hd : decode bytes pc = .ok (.putfield index, 3)) (w : (Cond.fieldLink own index O f d).before a0 Z = true) (F : Fld Z h a O f d old) (X0 : Exa Z h a C)
    (L : (Cond.lays C O f d).before a0 Z = true ∨ ((Cond.laysFinal C O f d).before a0 Z = true ∧ own = O ∧ nm = "<init>")) (wi : (Cond.instantiable C kk).before a0 Z = true) (hty : parseFieldDescriptor d = some ty) (hnw : narrow ty v = v) (hf : fits ty v = true) (ha : n0 ≤ a) (hn : n = pc + 3)
    (E : ∀ T h', Pos p l e R s m args below meth c Z own nm bytes maxL ret n0 T h' cells slots → Wr h h' a (Jvm.RoadKit.slotOf Z O f d) v → Ends p e below s R n0 Q T (mkF m n Ls st)) : Ends p e below s R n0 Q T (mkF m pc Ls (v :: .ref a :: st)) := by
  subst hn; obtain ⟨_, X, N⟩ := P.stand
  obtain ⟨T', h', X', e', W, k⟩ := Jvm.RoadKit.putF (host := "") X P.hx P.hZ P.own' (Or.inl w) Via.refl P.heap F X0 (L.imp id fun q => ⟨q.1, q.2.1, P.name.trans q.2.2⟩) wi hty hnw hf (g := mkF m pc Ls (v :: .ref a :: st)) rfl rfl (hb P.code hd)
  exact (E T' h' (P.to X' (Fr.snoc X' N ha) e') W).via k
theorem newO {index k : Nat} {C : String} (P : Pos p l e R s m args below meth c Z own nm bytes maxL ret n0 T h cells slots) (hd : decode bytes pc = .ok (.new index, 3)) (w : (Cond.classLink own index C).before a0 Z = true) (wi : (Cond.instantiable C k).before a0 Z = true) (wz : (Cond.initialized C).before a0 Z = true) (hc : cells + 1 ≤ R.cells) (hl : slots + k ≤ R.slots) (hn : n = pc + 3)
    (E : ∀ T h' a, Pos p l e R s m args below meth c Z own nm bytes maxL ret n0 T h' (cells + 1) (slots + k) → Ext h h' → a = h.size → n0 ≤ a → Exa Z h' a C → (∀ {O f d : String} {ty : FieldType}, Laid Z a0 C O f d → parseFieldDescriptor d = some ty → Fld Z h' a O f d (defaultValue ty)) → Ends p e below s R n0 Q T (mkF m n Ls (.ref a :: st))) : Ends p e below s R n0 Q T (mkF m pc Ls st) := by
  subst hn; obtain ⟨_, X, N⟩ := P.stand
  obtain ⟨T', h', X', e', Ex, A, D, -, kk⟩ := Jvm.RoadKit.newO X P.hx P.hZ P.own' w wi wz P.heap (g := mkF m pc Ls st) rfl (hb P.code hd) hc hl
  exact (E T' h' _ (P.to X' N e') Ex rfl P.low A D).via kk
theorem initO {index : Nat} {a : Addr} (P : Pos p l e R s m args below meth c Z own nm bytes maxL ret n0 T h cells slots) (hd : decode bytes pc = .ok (.invokespecial index, 3)) (w1 : (Cond.methodLink own index Lib.objectInit).before a0 Z = true) (w2 : (Cond.instanceMethod Lib.objectInit).before a0 Z = true) (w3 : (Cond.code Lib.objectInit ⟨#[0xb1]⟩ 1 none).before a0 Z = true) (hsz : Ls.size = maxL)
    (hf : 1 ≤ R.frames) (hl : (st.map fun v => v.category).sum + 12 ≤ R.locals) (hn : n = pc + 3) (E : ∀ T, Pos p l e R s m args below meth c Z own nm bytes maxL ret n0 T h cells slots → Ends p e below s R n0 Q T (mkF m n Ls st)) : Ends p e below s R n0 Q T (mkF m pc Ls (.ref a :: st)) := by
  subst hn; obtain ⟨_, X, N⟩ := P.stand
  obtain ⟨T', X', e', k⟩ := Jvm.RoadKit.initO X P.hx P.hZ P.own' w1 w2 w3 P.heap (g := mkF m pc Ls (.ref a :: st)) rfl (hsz.trans P.maxl.symm) rfl (hb P.code hd) hf (W := (st.map fun v => v.category).sum) (by show 2 * 0 + _ ≤ _; omega) hl
  exact (E T' (P.to X' N e')).via k
/-! arrays: a length and what each place holds -/
def AR (Z : State) (h : Heap) (a : Addr) (ty : FieldType) (k : Nat) (f : Nat → Value) : Prop := ∃ cl : Cell, Arr Z h a cl ty ∧ cl.slots.size = k ∧ k < 2 ^ 31 ∧ ∀ i, i < k → cl.slots[i]? = some (f i)
/-- one place changed -/
def ovr {α : Type} (g : Nat → α) (i : Nat) (x : α) : Nat → α := fun j => if j = i then x else g j
theorem ovr_at {α : Type} (g : Nat → α) (i : Nat) (x : α) : ovr g i x i = x := by simp [ovr]
theorem ovr_ne {α : Type} (g : Nat → α) {i j : Nat} (x : α) (q : j ≠ i) : ovr g i x j = g j := by simp [ovr, q]
abbrev ARI (Z : State) (h : Heap) (a : Addr) (ty : FieldType) (k : Nat) (g : Nat → Int32) : Prop := AR Z h a ty k (fun i => .int (g i))
abbrev ARJ (Z : State) (h : Heap) (a : Addr) (k : Nat) (g : Nat → Int64) : Prop := AR Z h a .long k (fun i => .long (g i))
variable {a b : Addr} {ty : FieldType} {k : Nat} {f : Nat → Value}
theorem AR.lt (A : AR Z h a ty k f) : a < h.size := by obtain ⟨_, B, -⟩ := A; exact B.lt
theorem AR.len (A : AR Z h a ty k f) : k < 2 ^ 31 := by obtain ⟨_, _, _, r, _⟩ := A; exact r
theorem AR.ext (A : AR Z h a ty k f) (E : Ext h h') : AR Z h' a ty k f := by obtain ⟨cl, B, r⟩ := A; exact ⟨cl, B.ext E, r⟩
theorem AR.other {sl : Nat} {v : Value} (A : AR Z h b ty k f) (W : Wr h h' a sl v) (q : b ≠ a) : AR Z h' b ty k f := by obtain ⟨cl, B, r⟩ := A; exact ⟨cl, B.other W q, r⟩
theorem AR.keep {ws : List Addr} (A : AR Z h a ty k f) (K : Keep h h' ws) (q : a ∉ ws) : AR Z h' a ty k f := by obtain ⟨cl, B, r⟩ := A; exact ⟨cl, ⟨K.2.1 a cl B.1 q, B.2⟩, r⟩
theorem AR.congr {g : Nat → Value} (A : AR Z h a ty k f) (q : ∀ i, i < k → f i = g i) : AR Z h a ty k g := by obtain ⟨cl, B, r1, r2, r3⟩ := A; exact ⟨cl, B, r1, r2, fun i hi => by rw [r3 i hi, q i hi]⟩
theorem AR.set {i : Nat} {v : Value} (A : AR Z h a ty k f) (W : Wr h h' a i v) : AR Z h' a ty k (ovr f i v) := by
  obtain ⟨cl, B, r1, r2, r3⟩ := A
  refine ⟨_, B.same W, by rw [sz_set]; exact r1, r2, fun j hj => ?_⟩
  by_cases u : j = i
  · subst u; simp [Cell.setSlot, r1, hj, ovr]
  · simp only [Cell.setSlot, ovr, if_neg u]
    rw [Array.getElem?_setIfInBounds_ne (Ne.symm u)]; exact r3 j hj
theorem ARI.set {g : Nat → Int32} {i : Nat} {x : Int32} (A : ARI Z h a ty k g) (W : Wr h h' a i (.int x)) : ARI Z h' a ty k (ovr g i x) := by
  refine (AR.set A W).congr fun j _ => ?_
  by_cases u : j = i <;> simp [ovr, u]
theorem ARJ.set {g : Nat → Int64} {i : Nat} {x : Int64} (A : ARJ Z h a k g) (W : Wr h h' a i (.long x)) : ARJ Z h' a k (ovr g i x) := by
  refine (AR.set A W).congr fun j _ => ?_
  by_cases u : j = i <;> simp [ovr, u]
theorem inA {j : Int32} {i : Nat} {cl : Cell} (q : j.toInt = i ∧ i < k) (e : cl.slots.size = k) : ¬ (j < 0 ∨ cl.slots.size ≤ j.toNatClampNeg) ∧ j.toNatClampNeg = i := by
  have e0 : (0 : Int32).toInt = 0 := rfl
  simp only [Int32.lt_iff_toInt_lt, Int32.toNatClampNeg, e, e0]; omega
theorem newP {aty : ArrayType} {x : Int32} {cap : Nat} (P : Pos p l e R s m args below meth c Z own nm bytes maxL ret n0 T h cells slots) (hd : decode bytes pc = .ok (.newarray aty, 2)) (w : (Cond.arrayClass (newarray.typeOf aty)).before a0 Z = true) (hx : x.toInt = k ∧ k ≤ cap) (hb' : cap * 8 ≤ 536870912) (hc : cells + 1 ≤ R.cells ∧ slots + cap ≤ R.slots) (hn : n = pc + 2)
    (E : ∀ T h' a, Pos p l e R s m args below meth c Z own nm bytes maxL ret n0 T h' (cells + 1) (slots + cap) → Ext h h' → a = h.size → n0 ≤ a → AR Z h' a (newarray.typeOf aty) k (fun _ => defaultValue (newarray.typeOf aty)) → Ends p e below s R n0 Q T (mkF m n Ls (.ref a :: st))) : Ends p e below s R n0 Q T (mkF m pc Ls (.int x :: st)) := by
  subst hn; obtain ⟨_, X, N⟩ := P.stand
  have e0 : (0 : Int32).toInt = 0 := rfl
  have q1 : ¬ x < 0 := by rw [Int32.lt_iff_toInt_lt, e0]; omega
  have q2 : x.toNatClampNeg = k := by simp only [Int32.toNatClampNeg]; omega
  obtain ⟨T', h', cA, X', e', Ex, A, kk⟩ := Jvm.RoadKit.newP X P.hx P.hZ w P.heap (g := mkF m pc Ls (.int x :: st)) rfl (hb P.code hd) rfl q1 (cap := cap) (by omega) hb' hc.1 hc.2
  refine (E T' h' _ (P.to X' N e') Ex rfl P.low ⟨_, A, (sz_new _ _ _).trans q2, by have := rng32 x; omega, fun i hi => ?_⟩).via kk
  rw [← q2] at hi
  simp [newA, hi]
theorem ldA {i : Instr} {j : Int32} {u : Nat} {v : Value} (P : Pos p l e R s m args below meth c Z own nm bytes maxL ret n0 T h cells slots) (hd : decode bytes pc = .ok (i, 1)) (A : AR Z h a ty k f) (hi : (i = .baload ∧ (ty = .byte ∨ ty = .boolean)) ∨ (i = .iaload ∧ ty = .int) ∨ (i = .laload ∧ ty = .long) ∨ (i = .caload ∧ ty = .char) ∨ (i = .aaload ∧ ty.isReference = true)) (hj : j.toInt = u ∧ u < k) (hv : v = f u) (hn : n = pc + 1)
    (E : Ends p e below s R n0 Q T (mkF m n Ls (v :: st))) : Ends p e below s R n0 Q T (mkF m pc Ls (.int j :: .ref a :: st)) := by
  subst hn hv; obtain ⟨_, X, N⟩ := P.stand
  obtain ⟨cl, B, r1, r2, r3⟩ := A
  obtain ⟨q1, q5⟩ := inA hj r1
  have q2 : cl.slots[j.toNatClampNeg]? = some (f u) := by rw [q5]; exact r3 _ hj.2
  have q3 : T.heap[a]? = some cl := by rw [P.heap]; exact B.1
  have q4 := State.isArrayOf_alike (T := s) P.hZ.alike B.2.1
  rcases hi with ⟨rfl, rfl | rfl⟩ | ⟨rfl, rfl⟩ | ⟨rfl, rfl⟩ | ⟨rfl, rfl⟩ | ⟨rfl, ht⟩
  · exact E.via fun t k => X.baloadBytes P.hx q3 q4 B.2.2 q1 q2 (g := mkF m pc Ls (.int j :: .ref a :: st)) rfl rfl (hb P.code hd) t k
  · exact E.via fun t k => X.baloadBooleans P.hx q3 q4 B.2.2 q1 q2 (g := mkF m pc Ls (.int j :: .ref a :: st)) rfl rfl (hb P.code hd) t k
  · exact E.via fun t k => X.iaload P.hx q3 q4 B.2.2 q1 q2 (g := mkF m pc Ls (.int j :: .ref a :: st)) rfl rfl (hb P.code hd) t k
  · exact E.via fun t k => X.laload P.hx q3 q4 B.2.2 q1 q2 (g := mkF m pc Ls (.int j :: .ref a :: st)) rfl rfl (hb P.code hd) t k
  · exact E.via fun t k => X.caload P.hx q3 q4 B.2.2 q1 q2 (g := mkF m pc Ls (.int j :: .ref a :: st)) rfl rfl (hb P.code hd) t k
  · exact E.via fun t k => X.aaload P.hx q3 q4 ht B.2.2 q1 q2 (g := mkF m pc Ls (.int j :: .ref a :: st)) rfl rfl (hb P.code hd) t k
theorem baloadI {j : Int32} {u : Nat} {g : Nat → Int32} (P : Pos p l e R s m args below meth c Z own nm bytes maxL ret n0 T h cells slots) (hd : decode bytes pc = .ok (.baload, 1)) (A : ARI Z h a .byte k g) (hj : j.toInt = u ∧ u < k) (hn : n = pc + 1) (E : Ends p e below s R n0 Q T (mkF m n Ls (.int (g u) :: st))) : Ends p e below s R n0 Q T (mkF m pc Ls (.int j :: .ref a :: st)) := ldA P hd A (Or.inl ⟨rfl, Or.inl rfl⟩) hj rfl hn E
theorem zaloadI {j : Int32} {u : Nat} {g : Nat → Int32} (P : Pos p l e R s m args below meth c Z own nm bytes maxL ret n0 T h cells slots) (hd : decode bytes pc = .ok (.baload, 1)) (A : ARI Z h a .boolean k g) (hj : j.toInt = u ∧ u < k) (hn : n = pc + 1) (E : Ends p e below s R n0 Q T (mkF m n Ls (.int (g u) :: st))) : Ends p e below s R n0 Q T (mkF m pc Ls (.int j :: .ref a :: st)) := ldA P hd A (Or.inl ⟨rfl, Or.inr rfl⟩) hj rfl hn E
theorem ialoadI {j : Int32} {u : Nat} {g : Nat → Int32} (P : Pos p l e R s m args below meth c Z own nm bytes maxL ret n0 T h cells slots) (hd : decode bytes pc = .ok (.iaload, 1)) (A : ARI Z h a .int k g) (hj : j.toInt = u ∧ u < k) (hn : n = pc + 1) (E : Ends p e below s R n0 Q T (mkF m n Ls (.int (g u) :: st))) : Ends p e below s R n0 Q T (mkF m pc Ls (.int j :: .ref a :: st)) := ldA P hd A (Or.inr (Or.inl ⟨rfl, rfl⟩)) hj rfl hn E
theorem laloadJ {j : Int32} {u : Nat} {g : Nat → Int64} (P : Pos p l e R s m args below meth c Z own nm bytes maxL ret n0 T h cells slots) (hd : decode bytes pc = .ok (.laload, 1)) (A : ARJ Z h a k g) (hj : j.toInt = u ∧ u < k) (hn : n = pc + 1) (E : Ends p e below s R n0 Q T (mkF m n Ls (.long (g u) :: st))) : Ends p e below s R n0 Q T (mkF m pc Ls (.int j :: .ref a :: st)) := ldA P hd A (Or.inr (Or.inr (Or.inl ⟨rfl, rfl⟩))) hj rfl hn E
theorem alen {x : Int32} (P : Pos p l e R s m args below meth c Z own nm bytes maxL ret n0 T h cells slots) (hd : decode bytes pc = .ok (.arraylength, 1)) (A : AR Z h a ty k f) (hx : x.toInt = k) (hn : n = pc + 1)
    (E : Ends p e below s R n0 Q T (mkF m n Ls (.int x :: st))) : Ends p e below s R n0 Q T (mkF m pc Ls (.ref a :: st)) := by
  subst hn; obtain ⟨_, X, N⟩ := P.stand
  obtain ⟨cl, B, r1, r2, r3⟩ := A
  have q4 := State.isArrayOf_alike (T := s) P.hZ.alike B.2.1
  have q5 : cl.slots.size.toInt32 = x := by rw [← Int32.toInt_inj, len_toInt (by omega), r1, hx]
  exact E.via fun t k => X.arraylength P.hx (by rw [P.heap]; exact B.1) q4 (g := mkF m pc Ls (.ref a :: st)) rfl rfl (hb P.code hd) t (by rw [q5]; exact k)
theorem stI {j : Int32} {u : Nat} {x : Int32} (P : Pos p l e R s m args below meth c Z own nm bytes maxL ret n0 T h cells slots) (hd : decode bytes pc = .ok (.iastore, 1)) (A : AR Z h a .int k f) (hj : j.toInt = u ∧ u < k) (ha : n0 ≤ a) (hn : n = pc + 1)
    (E : ∀ T h', Pos p l e R s m args below meth c Z own nm bytes maxL ret n0 T h' cells slots → Wr h h' a u (.int (x)) → Ends p e below s R n0 Q T (mkF m n Ls st)) : Ends p e below s R n0 Q T (mkF m pc Ls (.int x :: .int j :: .ref a :: st)) := by
  subst hn; obtain ⟨_, X, N⟩ := P.stand
  obtain ⟨cl, B, r1, r2, r3⟩ := A
  obtain ⟨q1, q5⟩ := inA hj r1
  obtain ⟨T', h', X', e', W, kk⟩ := Jvm.RoadKit.stI X P.hx P.hZ P.heap B q1 (g := mkF m pc Ls (.int x :: .int j :: .ref a :: st)) rfl rfl (hb P.code hd)
  rw [q5] at W X'
  refine (E T' h' (P.to X' (Fr.snoc X' N ha) e') ?_).via kk
  exact W
theorem stJ {j : Int32} {u : Nat} {x : Int64} (P : Pos p l e R s m args below meth c Z own nm bytes maxL ret n0 T h cells slots) (hd : decode bytes pc = .ok (.lastore, 1)) (A : AR Z h a .long k f) (hj : j.toInt = u ∧ u < k) (ha : n0 ≤ a) (hn : n = pc + 1)
    (E : ∀ T h', Pos p l e R s m args below meth c Z own nm bytes maxL ret n0 T h' cells slots → Wr h h' a u (.long (x)) → Ends p e below s R n0 Q T (mkF m n Ls st)) : Ends p e below s R n0 Q T (mkF m pc Ls (.long x :: .int j :: .ref a :: st)) := by
  subst hn; obtain ⟨_, X, N⟩ := P.stand
  obtain ⟨cl, B, r1, r2, r3⟩ := A
  obtain ⟨q1, q5⟩ := inA hj r1
  obtain ⟨T', h', X', e', W, kk⟩ := Jvm.RoadKit.stJ X P.hx P.hZ P.heap B q1 (g := mkF m pc Ls (.long x :: .int j :: .ref a :: st)) rfl rfl (hb P.code hd)
  rw [q5] at W X'
  refine (E T' h' (P.to X' (Fr.snoc X' N ha) e') ?_).via kk
  exact W
theorem stB {j : Int32} {u : Nat} {x : Int32} (P : Pos p l e R s m args below meth c Z own nm bytes maxL ret n0 T h cells slots) (hd : decode bytes pc = .ok (.bastore, 1)) (A : AR Z h a .byte k f) (hj : j.toInt = u ∧ u < k) (ha : n0 ≤ a) (hn : n = pc + 1)
    (E : ∀ T h', Pos p l e R s m args below meth c Z own nm bytes maxL ret n0 T h' cells slots → Wr h h' a u (.int (x.toInt8.toInt32)) → Ends p e below s R n0 Q T (mkF m n Ls st)) : Ends p e below s R n0 Q T (mkF m pc Ls (.int x :: .int j :: .ref a :: st)) := by
  subst hn; obtain ⟨_, X, N⟩ := P.stand
  obtain ⟨cl, B, r1, r2, r3⟩ := A
  obtain ⟨q1, q5⟩ := inA hj r1
  obtain ⟨T', h', X', e', W, kk⟩ := Jvm.RoadKit.stB X P.hx P.hZ P.heap B q1 (g := mkF m pc Ls (.int x :: .int j :: .ref a :: st)) rfl rfl (hb P.code hd)
  rw [q5] at W X'
  refine (E T' h' (P.to X' (Fr.snoc X' N ha) e') ?_).via kk
  exact W
theorem stZ {j : Int32} {u : Nat} {x : Int32} (P : Pos p l e R s m args below meth c Z own nm bytes maxL ret n0 T h cells slots) (hd : decode bytes pc = .ok (.bastore, 1)) (A : AR Z h a .boolean k f) (hj : j.toInt = u ∧ u < k) (ha : n0 ≤ a) (hz : x = 0 ∨ x = 1) (hn : n = pc + 1)
    (E : ∀ T h', Pos p l e R s m args below meth c Z own nm bytes maxL ret n0 T h' cells slots → Wr h h' a u (.int (x)) → Ends p e below s R n0 Q T (mkF m n Ls st)) : Ends p e below s R n0 Q T (mkF m pc Ls (.int x :: .int j :: .ref a :: st)) := by
  subst hn; obtain ⟨_, X, N⟩ := P.stand
  obtain ⟨cl, B, r1, r2, r3⟩ := A
  obtain ⟨q1, q5⟩ := inA hj r1
  obtain ⟨T', h', X', e', W, kk⟩ := Jvm.RoadKit.stZ X P.hx P.hZ P.heap B q1 (g := mkF m pc Ls (.int x :: .int j :: .ref a :: st)) rfl rfl (hb P.code hd)
  rw [q5] at W X'
  refine (E T' h' (P.to X' (Fr.snoc X' N ha) e') ?_).via kk
  rcases hz with rfl | rfl <;> exact W
theorem stC {j : Int32} {u : Nat} {x : Int32} (P : Pos p l e R s m args below meth c Z own nm bytes maxL ret n0 T h cells slots) (hd : decode bytes pc = .ok (.castore, 1)) (A : AR Z h a .char k f) (hj : j.toInt = u ∧ u < k) (ha : n0 ≤ a) (hn : n = pc + 1)
    (E : ∀ T h', Pos p l e R s m args below meth c Z own nm bytes maxL ret n0 T h' cells slots → Wr h h' a u (.int (nar .char x)) → Ends p e below s R n0 Q T (mkF m n Ls st)) : Ends p e below s R n0 Q T (mkF m pc Ls (.int x :: .int j :: .ref a :: st)) := by
  subst hn; obtain ⟨_, X, N⟩ := P.stand
  obtain ⟨cl, B, r1, r2, r3⟩ := A
  obtain ⟨q1, q5⟩ := inA hj r1
  obtain ⟨T', h', X', e', W, kk⟩ := Jvm.RoadKit.stC X P.hx P.hZ P.heap B q1 (g := mkF m pc Ls (.int x :: .int j :: .ref a :: st)) rfl rfl (hb P.code hd)
  rw [q5] at W X'
  exact (E T' h' (P.to X' (Fr.snoc X' N ha) e') W).via kk
/-- the library's form of an array -/
theorem AR.arv {vs : List Value} {dv : Value} {N : Int32} (A : AR Z h a ty k f) (hN : N.toInt = k) (hv : ∀ i, i < k → f i = vs.getD i dv) (hf : ∀ i, i < k → fits ty (vs.getD i dv) = true) : ∃ kC, Arv Z h a kC ty N vs dv := by
  obtain ⟨cl, B, r1, r2, r3⟩ := A
  have e0 : (0 : Int32).toInt = 0 := rfl
  refine ⟨cl.cls, cl, B, rfl, by rw [r1]; simp only [Int32.toNatClampNeg]; omega, by rw [Int32.lt_iff_toInt_lt, e0]; omega, fun i hi => ?_, fun i hi => hf i (r1 ▸ hi)⟩
  rw [r1] at hi; rw [r3 i hi, hv i hi]
/-! arrays of references -/
def ARC (Z : State) (h : Heap) (a : Addr) (C : String) (k : Nat) (f : Nat → Value) : Prop := ∃ cl : Cell, Arr Z h a cl (.object C) ∧ cl.slots.size = k ∧ k < 2 ^ 31 ∧ (∀ i, i < k → cl.slots[i]? = some (f i)) ∧ Ovr Z cl.cls C
theorem ARC.ar {C : String} (A : ARC Z h a C k f) : AR Z h a (.object C) k f := by obtain ⟨cl, B, r1, r2, r3, -⟩ := A; exact ⟨cl, B, r1, r2, r3⟩
theorem ARC.lt {C : String} (A : ARC Z h a C k f) : a < h.size := A.ar.lt
theorem ARC.ext {C : String} (A : ARC Z h a C k f) (E : Ext h h') : ARC Z h' a C k f := by obtain ⟨cl, B, r⟩ := A; exact ⟨cl, B.ext E, r⟩
theorem ARC.other {C : String} {sl : Nat} {v : Value} (A : ARC Z h b C k f) (W : Wr h h' a sl v) (q : b ≠ a) : ARC Z h' b C k f := by obtain ⟨cl, B, r⟩ := A; exact ⟨cl, B.other W q, r⟩
theorem ARC.set {C : String} {i : Nat} {v : Value} (A : ARC Z h a C k f) (W : Wr h h' a i v) : ARC Z h' a C k (ovr f i v) := by
  obtain ⟨cl, B, r1, r2, r3, r4⟩ := A
  refine ⟨_, B.same W, by rw [sz_set]; exact r1, r2, fun j hj => ?_, r4⟩
  by_cases u : j = i
  · subst u; simp [Cell.setSlot, r1, hj, ovr]
  · simp only [Cell.setSlot, ovr, if_neg u]
    rw [Array.getElem?_setIfInBounds_ne (Ne.symm u)]; exact r3 j hj
theorem newR {index : Nat} {C : String} {x : Int32} {cap : Nat} (P : Pos p l e R s m args below meth c Z own nm bytes maxL ret n0 T h cells slots) (hd : decode bytes pc = .ok (.anewarray index, 3)) (w1 : (Cond.classLink own index C).before a0 Z = true) (w2 : (Cond.arrayOver (.object C)).before a0 Z = true) (hx : x.toInt = k ∧ k ≤ cap) (hb' : cap * 8 ≤ 536870912) (hc : cells + 1 ≤ R.cells ∧ slots + cap ≤ R.slots) (hn : n = pc + 3)
    (E : ∀ T h' a, Pos p l e R s m args below meth c Z own nm bytes maxL ret n0 T h' (cells + 1) (slots + cap) → Ext h h' → a = h.size → n0 ≤ a → ARC Z h' a C k (fun _ => .null) → Ends p e below s R n0 Q T (mkF m n Ls (.ref a :: st))) : Ends p e below s R n0 Q T (mkF m pc Ls (.int x :: st)) := by
  subst hn; obtain ⟨_, X, N⟩ := P.stand
  have e0 : (0 : Int32).toInt = 0 := rfl
  have q1 : ¬ x < 0 := by rw [Int32.lt_iff_toInt_lt, e0]; omega
  have q2 : x.toNatClampNeg = k := by simp only [Int32.toNatClampNeg]; omega
  obtain ⟨T', h', cA, X', e', Ex, A, O, kk⟩ := Jvm.RoadKit.newR X P.hx P.hZ P.own' w1 w2 P.heap (g := mkF m pc Ls (.int x :: st)) rfl (hb P.code hd) rfl q1 (cap := cap) (by omega) hb' hc.1 hc.2
  refine (E T' h' _ (P.to X' N e') Ex rfl P.low ⟨_, A, (sz_new _ _ _).trans q2, by have := rng32 x; omega, fun i hi => ?_, O⟩).via kk
  rw [← q2] at hi
  simp [newA, hi, defaultValue]
theorem stR {C : String} {j : Int32} {u : Nat} {y : Addr} (P : Pos p l e R s m args below meth c Z own nm bytes maxL ret n0 T h cells slots) (hd : decode bytes pc = .ok (.aastore, 1)) (A : ARC Z h a C k f) (hj : j.toInt = u ∧ u < k) (I : Ins Z h y C true) (ha : n0 ≤ a) (hn : n = pc + 1)
    (E : ∀ T h', Pos p l e R s m args below meth c Z own nm bytes maxL ret n0 T h' cells slots → Wr h h' a u (.ref y) → Ends p e below s R n0 Q T (mkF m n Ls st)) : Ends p e below s R n0 Q T (mkF m pc Ls (.ref y :: .int j :: .ref a :: st)) := by
  subst hn; obtain ⟨_, X, N⟩ := P.stand
  obtain ⟨cl, B, r1, r2, r3, r4⟩ := A
  obtain ⟨q1, q5⟩ := inA hj r1
  obtain ⟨T', h', X', e', W, kk⟩ := Jvm.RoadKit.stR X P.hx P.hZ P.heap B q1 rfl (Sto.of B r4 I) (g := mkF m pc Ls (.ref y :: .int j :: .ref a :: st)) rfl rfl (hb P.code hd)
  rw [q5] at W X'
  exact (E T' h' (P.to X' (Fr.snoc X' N ha) e') W).via kk
/-- null into an array of references -/
theorem stN {j : Int32} {u : Nat} (P : Pos p l e R s m args below meth c Z own nm bytes maxL ret n0 T h cells slots) (hd : decode bytes pc = .ok (.aastore, 1)) (A : AR Z h a ty k f) (ht : ty.isReference = true) (hj : j.toInt = u ∧ u < k) (ha : n0 ≤ a) (hn : n = pc + 1)
    (E : ∀ T h', Pos p l e R s m args below meth c Z own nm bytes maxL ret n0 T h' cells slots → Wr h h' a u .null → Ends p e below s R n0 Q T (mkF m n Ls st)) : Ends p e below s R n0 Q T (mkF m pc Ls (.null :: .int j :: .ref a :: st)) := by
  subst hn; obtain ⟨_, X, N⟩ := P.stand
  obtain ⟨cl, B, r1, r2, r3⟩ := A
  obtain ⟨q1, q5⟩ := inA hj r1
  obtain ⟨T', h', X', e', W, kk⟩ := Jvm.RoadKit.stR X P.hx P.hZ P.heap B q1 ht (Or.inl rfl) (g := mkF m pc Ls (.null :: .int j :: .ref a :: st)) rfl rfl (hb P.code hd)
  rw [q5] at W X'
  exact (E T' h' (P.to X' (Fr.snoc X' N ha) e') W).via kk
theorem newRA {index : Nat} {C ad : String} {ty : FieldType} {x : Int32} {cap : Nat} (P : Pos p l e R s m args below meth c Z own nm bytes maxL ret n0 T h cells slots) (hd : decode bytes pc = .ok (.anewarray index, 3)) (hC : (FieldType.array ty).toString = C) (had : "[" ++ C = ad) (w1 : (Cond.classLink own index C).before a0 Z = true) (w2 : (Cond.arrayOver (.array ty)).before a0 Z = true) (hx : x.toInt = k ∧ k ≤ cap) (hb' : cap * 8 ≤ 536870912) (hc : cells + 1 ≤ R.cells ∧ slots + cap ≤ R.slots) (hn : n = pc + 3)
    (E : ∀ T h' a, Pos p l e R s m args below meth c Z own nm bytes maxL ret n0 T h' (cells + 1) (slots + cap) → Ext h h' → a = h.size → n0 ≤ a → AR Z h' a (.array ty) k (fun _ => .null) → Ends p e below s R n0 Q T (mkF m n Ls (.ref a :: st))) : Ends p e below s R n0 Q T (mkF m pc Ls (.int x :: st)) := by
  subst hn; obtain ⟨_, X, N⟩ := P.stand
  have e0 : (0 : Int32).toInt = 0 := rfl
  have q1 : ¬ x < 0 := by rw [Int32.lt_iff_toInt_lt, e0]; omega
  have q2 : x.toNatClampNeg = k := by simp only [Int32.toNatClampNeg]; omega
  obtain ⟨T', h', cA, X', e', Ex, A, -, -, kk⟩ := Jvm.RoadKit.newRA X P.hx P.hZ P.own' hC w1 w2 P.heap (g := mkF m pc Ls (.int x :: st)) rfl (hb P.code hd) rfl q1 (cap := cap) (by omega) hb' hc.1 hc.2 had
  refine (E T' h' _ (P.to X' N e') Ex rfl P.low ⟨_, A, (sz_new _ _ _).trans q2, by have := rng32 x; omega, fun i hi => ?_⟩).via kk
  rw [← q2] at hi
  simp [newA, hi, defaultValue]
theorem aaloadA {j : Int32} {u : Nat} {g : Nat → Addr} {C : String} (P : Pos p l e R s m args below meth c Z own nm bytes maxL ret n0 T h cells slots) (hd : decode bytes pc = .ok (.aaload, 1)) (A : AR Z h a (.object C) k (fun i => .ref (g i))) (hj : j.toInt = u ∧ u < k) (hn : n = pc + 1) (E : Ends p e below s R n0 Q T (mkF m n Ls (.ref (g u) :: st))) : Ends p e below s R n0 Q T (mkF m pc Ls (.int j :: .ref a :: st)) := ldA P hd A (Or.inr (Or.inr (Or.inr (Or.inr ⟨rfl, rfl⟩)))) hj rfl hn E
/-! from the sheet's words -/
theorem eq_v {t : Term} {k : Int32} {idx : List Nat} (h : (Cond.eq t (.int k)).value args s none s idx = some true) : t.eval args s none idx s = some (.int k) := by
  cases hv : t.eval args s none idx s with
  | none => simp [Cond.value, hv] at h
  | some v => cases v <;> simp_all [Cond.value, Term.eval]
theorem ord_v {t : Term} {C nn d : String} {k : Int32} (ht : t.eval args s none [] s = some (.ref a)) (h : (Cond.eq (.field t C nn d) (.int k)).value args s none s [] = some true) : Fld s s.heap a C nn d (.int k) :=
  Fld.start ((fld_at (o := none) (args := args) (first := s) (idx := []) ht).symm.trans (eq_v h))
theorem fref_v {t u : Term} {C nn d : String} (ht : t.eval args s none [] s = some (.ref a)) (hu : u.eval args s none [] s = some (.ref b)) (h : (Cond.eq (.field t C nn d) u).value args s none s [] = some true) : Fld s s.heap a C nn d (.ref b) := by
  refine Fld.start ((fld_at (o := none) (args := args) (first := s) (idx := []) ht).symm.trans ?_)
  cases hv : (Term.field t C nn d).eval args s none [] s with
  | none => simp [Cond.value, hv] at h
  | some v => cases v <;> simp_all [Cond.value]
theorem AR.start {t : Term} {z : Int32} (ev : t.eval args s none [] s = some (.ref a)) (hx : (Cond.arrayOf t ty).value args s none s [] = some true) (hl : (Cond.eq (.length t) (.int z)).value args s none s [] = some true) (hz : z.toInt = k)
    (he : ∀ i, i < k → (Term.elem t (.int (Int32.ofNat i))).eval args s none [] s = some (f i)) : AR s s.heap a ty k f := by
  obtain ⟨cl, A⟩ := Arr.start ev hx
  have hA : s.arrayAt? a = some cl := A.fin (Vm.Alike.refl _)
  have hl2 := eq_v hl
  have hl3 : cl.slots.size < 2 ^ 31 ∧ cl.slots.size.toInt32 = z := by simpa [Term.eval, ev, hA] using hl2
  have hsz : cl.slots.size = k := by
    have := len_toInt hl3.1; rw [hl3.2, hz] at this; omega
  refine ⟨cl, A, hsz, by omega, fun i hi => ?_⟩
  have e2 := (elem_in (he i hi) ev (Term.int_eval _) A.1).2
  have e3 : (Int32.ofNat i).toNatClampNeg = i := by
    simp only [Int32.toNatClampNeg, Int32.toInt_ofNat_small (show i < 2 ^ 31 by omega)]; omega
  rw [e3] at e2; exact e2
theorem dloadN (P : Pos p l e R s m args below meth c Z own nm bytes maxL ret n0 T h cells slots) {j : Fin 4} {v : UInt64} (hd : decode bytes pc = .ok (.dload_n j, 1)) (hl : Ls[j.val]? = some (.val (.double v))) (hn : n = pc + 1)
    (E : Ends p e below s R n0 Q T (mkF m n Ls (.double v :: st))) : Ends p e below s R n0 Q T (mkF m pc Ls st) := by
  subst hn; exact E.via fun t k => XS.dloadN P.here P.hx rfl (hb P.code hd) hl k
theorem dload (P : Pos p l e R s m args below meth c Z own nm bytes maxL ret n0 T h cells slots) {j : Nat} {v : UInt64} (hd : decode bytes pc = .ok (.dload j, 2)) (hl : Ls[j]? = some (.val (.double v))) (hn : n = pc + 2)
    (E : Ends p e below s R n0 Q T (mkF m n Ls (.double v :: st))) : Ends p e below s R n0 Q T (mkF m pc Ls st) := by
  subst hn; exact E.via fun t k => XS.dload P.here P.hx rfl (hb P.code hd) hl k
theorem dstoreN (P : Pos p l e R s m args below meth c Z own nm bytes maxL ret n0 T h cells slots) {j : Fin 4} {v : UInt64} {l' : Array Slot} (hd : decode bytes pc = .ok (.dstore_n j, 1)) (hl : storeLocals Ls j.val (.double v) = some l') (hn : n = pc + 1)
    (E : Ends p e below s R n0 Q T (mkF m n l' st)) : Ends p e below s R n0 Q T (mkF m pc Ls (.double v :: st)) := by
  subst hn; exact E.via fun t k => XS.dstoreN P.here P.hx rfl (hb P.code hd) rfl hl k
theorem dstore (P : Pos p l e R s m args below meth c Z own nm bytes maxL ret n0 T h cells slots) {j : Nat} {v : UInt64} {l' : Array Slot} (hd : decode bytes pc = .ok (.dstore j, 2)) (hl : storeLocals Ls j (.double v) = some l') (hn : n = pc + 2)
    (E : Ends p e below s R n0 Q T (mkF m n l' st)) : Ends p e below s R n0 Q T (mkF m pc Ls (.double v :: st)) := by
  subst hn; exact E.via fun t k => XS.dstore P.here P.hx rfl (hb P.code hd) rfl hl k
theorem dconst0 (P : Pos p l e R s m args below meth c Z own nm bytes maxL ret n0 T h cells slots) (hd : decode bytes pc = .ok (.dconst 0, 1)) (hn : n = pc + 1)
    (E : Ends p e below s R n0 Q T (mkF m n Ls (.double 0 :: st))) : Ends p e below s R n0 Q T (mkF m pc Ls st) := by
  subst hn; exact E.via fun t k => XS.dconst0 P.here P.hx rfl (hb P.code hd) rfl k
theorem l2d (P : Pos p l e R s m args below meth c Z own nm bytes maxL ret n0 T h cells slots) {x : Int64} (hd : decode bytes pc = .ok (.l2d, 1)) (hn : n = pc + 1)
    (E : Ends p e below s R n0 Q T (mkF m n Ls (.double (FP.l2d x) :: st))) : Ends p e below s R n0 Q T (mkF m pc Ls (.long x :: st)) := by
  subst hn; exact E.via fun t k => XS.l2dS P.here P.hx rfl (hb P.code hd) rfl rfl k
theorem i2d (P : Pos p l e R s m args below meth c Z own nm bytes maxL ret n0 T h cells slots) {x : Int32} (hd : decode bytes pc = .ok (.i2d, 1)) (hn : n = pc + 1)
    (E : Ends p e below s R n0 Q T (mkF m n Ls (.double (FP.i2d x) :: st))) : Ends p e below s R n0 Q T (mkF m pc Ls (.int x :: st)) := by
  subst hn; exact E.via fun t k => XS.i2dS P.here P.hx rfl (hb P.code hd) rfl rfl k
theorem dadd (P : Pos p l e R s m args below meth c Z own nm bytes maxL ret n0 T h cells slots) {x y : UInt64} (hd : decode bytes pc = .ok (.dadd, 1)) (hv : Jvm.Free.Fl.NoNaN64 (FP.dadd x y)) (hn : n = pc + 1)
    (E : Ends p e below s R n0 Q T (mkF m n Ls (.double (FP.dadd x y) :: st))) : Ends p e below s R n0 Q T (mkF m pc Ls (.double y :: .double x :: st)) := by
  subst hn; exact E.via fun t k => XS.daddS P.here P.hx rfl (hb P.code hd) rfl hv rfl k
theorem dsub (P : Pos p l e R s m args below meth c Z own nm bytes maxL ret n0 T h cells slots) {x y : UInt64} (hd : decode bytes pc = .ok (.dsub, 1)) (hv : Jvm.Free.Fl.NoNaN64 (FP.dsub x y)) (hn : n = pc + 1)
    (E : Ends p e below s R n0 Q T (mkF m n Ls (.double (FP.dsub x y) :: st))) : Ends p e below s R n0 Q T (mkF m pc Ls (.double y :: .double x :: st)) := by
  subst hn; exact E.via fun t k => XS.dsubS P.here P.hx rfl (hb P.code hd) rfl hv rfl k
theorem dmul (P : Pos p l e R s m args below meth c Z own nm bytes maxL ret n0 T h cells slots) {x y : UInt64} (hd : decode bytes pc = .ok (.dmul, 1)) (hv : Jvm.Free.Fl.NoNaN64 (FP.dmul x y)) (hn : n = pc + 1)
    (E : Ends p e below s R n0 Q T (mkF m n Ls (.double (FP.dmul x y) :: st))) : Ends p e below s R n0 Q T (mkF m pc Ls (.double y :: .double x :: st)) := by
  subst hn; exact E.via fun t k => XS.dmulS P.here P.hx rfl (hb P.code hd) rfl hv rfl k
theorem ddiv (P : Pos p l e R s m args below meth c Z own nm bytes maxL ret n0 T h cells slots) {x y : UInt64} (hd : decode bytes pc = .ok (.ddiv, 1)) (hv : Jvm.Free.Fl.NoNaN64 (FP.ddiv x y)) (hn : n = pc + 1)
    (E : Ends p e below s R n0 Q T (mkF m n Ls (.double (FP.ddiv x y) :: st))) : Ends p e below s R n0 Q T (mkF m pc Ls (.double y :: .double x :: st)) := by
  subst hn; exact E.via fun t k => XS.ddivS P.here P.hx rfl (hb P.code hd) rfl hv rfl k
theorem dcmp (P : Pos p l e R s m args below meth c Z own nm bytes maxL ret n0 T h cells slots) {o : CmpOp} {x y : UInt64} {v : Int32} (hd : decode bytes pc = .ok (.dcmp o, 1)) (hv : cmpValue (FP.dcmp x y) o = v) (hn : n = pc + 1)
    (E : Ends p e below s R n0 Q T (mkF m n Ls (.int v :: st))) : Ends p e below s R n0 Q T (mkF m pc Ls (.double y :: .double x :: st)) := by
  subst hn; exact E.via fun t k => XS.dcmpS P.here P.hx rfl (hb P.code hd) rfl hv k
theorem ldc2D {index : Nat} {v : UInt64} (P : Pos p l e R s m args below meth c Z own nm bytes maxL ret n0 T h cells slots) (hd : decode bytes pc = .ok (.ldc2_w index, 3)) (w : (Cond.constantDouble own index v).before a0 Z = true) (hn : n = pc + 3) (E : Ends p e below s R n0 Q T (mkF m n Ls (.double v :: st))) : Ends p e below s R n0 Q T (mkF m pc Ls st) := by
  subst hn; obtain ⟨_, X, -⟩ := P.stand
  exact E.via fun t k => X.ldc2DoubleC P.hx P.own' (mvT P.hZ w) (g := mkF m pc Ls st) rfl (hb P.code hd) t k
theorem retD {x : UInt64} (P : Pos p l e R s m args below meth c Z own nm bytes maxL (some .double) n0 T h cells slots) (hd : decode bytes pc = .ok (.dreturn, 1)) (hc : cells ≤ R.cells) (hs : slots ≤ R.slots) (q : Q (some (.double x)) h) : Ends p e below s R n0 Q T (mkF m pc Ls (.double x :: st)) :=
  retA P hd rfl (Or.inr (Or.inr (Or.inl ⟨rfl, rfl, _, rfl⟩))) hc hs q
/-! calls -/
theorem Meth.back {y : MethodName} {cb : ByteArray} {mL : Nat} {rt : Option FieldType} {rm : Room} {as : Array Value} {Qc : Option Value → Heap → Prop} {W : Nat} (hM : Meth l Z y cb mL rt rm as h n0 Qc) (hZ : Z.Warmed39 s.vm) (wc : (Cond.code y cb mL rt).before a0 Z = true) (wz : (Cond.initialized y.cls).before a0 Z = true) (hf : rm.frames + 1 ≤ R.frames) (hl : W + (mL + 11) + rm.locals ≤ R.locals) :
    Back l R p e below s args y 3 W (fun A a => a = as ∧ A.U.heap = h ∧ A.cells + rm.cells ≤ R.cells ∧ A.slots + rm.slots ≤ R.slots) (fun A _ v B => ∃ L, (Qc v B.U.heap ∧ Fr n0 L) ∧ B.locs = A.locs ++ L ∧ B.cells = A.cells + rm.cells ∧ B.slots = A.slots + rm.slots) :=
  backOf (Q := fun v h' L => Qc v h' ∧ Fr n0 L) (hM []) hZ wc wz hf hl
theorem callS {index : Nat} {y : MethodName} {cb : ByteArray} {mL : Nat} {rt : Option FieldType} {rm : Room} {argsL rest stk : List Value} {ps : List FieldType} {r : Option FieldType} {Qc : Option Value → Heap → Prop} (P : Pos p l e R s m args below meth c Z own nm bytes maxL ret n0 T h cells slots) (hd : decode bytes pc = .ok (.invokestatic index, 3))
    (hM : Meth l Z y cb mL rt rm argsL.toArray h n0 Qc) (w1 : (Cond.methodLink own index y).before a0 Z = true) (w2 : (Cond.static y).before a0 Z = true) (w3 : (Cond.initialized y.cls).before a0 Z = true) (w4 : (Cond.code y cb mL rt).before a0 Z = true) (hy : y.cls ≠ "java/lang/invoke/MethodHandle" ∧ y.cls ≠ "java/lang/invoke/VarHandle")
    (hp : parseMethodDescriptor y.desc = some ⟨ps, r⟩) (hl : argsL.length = ps.length) (hst : stk = argsL.reverse ++ rest) (hsz : Ls.size = maxL) (hr : rm.frames + 1 ≤ R.frames ∧ (rest.map fun v => v.category).sum + (mL + 11) + rm.locals ≤ R.locals ∧ cells + rm.cells ≤ R.cells ∧ slots + rm.slots ≤ R.slots) (hn : n = pc + 3)
    (E : ∀ T h' v, Pos p l e R s m args below meth c Z own nm bytes maxL ret n0 T h' (cells + rm.cells) (slots + rm.slots) → Qc v h' → Ends p e below s R n0 Q T (mkF m n Ls (v.toList ++ rest))) : Ends p e below s R n0 Q T (mkF m pc Ls stk) := by
  subst hn hst; obtain ⟨locs, X, N⟩ := P.stand
  obtain ⟨v, _, ⟨T', L', k', n'⟩, -, X', ⟨Lc, hQ, e1, e2, e3⟩, kk⟩ := Jvm.LawKit.callS X P.hx (y := y) P.own' (mvT P.hZ w1) (mvT P.hZ w2) (mvT P.hZ w3) (mvT P.hZ w4) hy (hM.back (W := (rest.map fun v => v.category).sum) P.hZ w4 w3 hr.1 hr.2.1) (g := mkF m pc Ls (argsL.reverse ++ rest)) rfl (hsz.trans P.maxl.symm) (argsL := argsL) (rest := rest) (lenOf hp hl) rfl (by show 2 * 0 + _ ≤ _; omega) (hb P.code hd) (fun _ _ => ⟨rfl, P.heap, hr.2.2.1, hr.2.2.2⟩)
  dsimp only [Pt.U, Pt.locs, Pt.cells, Pt.slots] at X' e1 e2 e3 kk hQ
  subst e1 e2 e3
  exact (E T' T'.heap v (P.to X' (Fr.app N hQ.2) rfl) hQ.1).via kk
theorem callN {a : Addr} {index : Nat} {y : MethodName} {cb : ByteArray} {mL : Nat} {rm : Room} {argsL rest stk : List Value} {ps : List FieldType} {r : Option FieldType} {Qc : Option Value → Heap → Prop} (P : Pos p l e R s m args below meth c Z own nm bytes maxL ret n0 T h cells slots) (hd : decode bytes pc = .ok (.invokespecial index, 3))
    (hM : Meth l Z y cb mL none rm (.ref a :: argsL).toArray h n0 Qc) (hy1 : y.name = "<init>") (w1 : (Cond.methodLink own index y).before a0 Z = true) (w2 : (Cond.instanceMethod y).before a0 Z = true) (w3 : (Cond.initialized y.cls).before a0 Z = true) (w4 : (Cond.code y cb mL none).before a0 Z = true) (hy : y.cls ≠ "java/lang/invoke/MethodHandle" ∧ y.cls ≠ "java/lang/invoke/VarHandle")
    (hp : parseMethodDescriptor y.desc = some ⟨ps, r⟩) (hl : argsL.length = ps.length) (hst : stk = argsL.reverse ++ .ref a :: rest) (hsz : Ls.size = maxL) (hr : rm.frames + 1 ≤ R.frames ∧ (rest.map fun v => v.category).sum + (mL + 11) + rm.locals ≤ R.locals ∧ cells + rm.cells ≤ R.cells ∧ slots + rm.slots ≤ R.slots) (hn : n = pc + 3)
    (E : ∀ T h' v, Pos p l e R s m args below meth c Z own nm bytes maxL ret n0 T h' (cells + rm.cells) (slots + rm.slots) → Qc v h' → Ends p e below s R n0 Q T (mkF m n Ls (v.toList ++ rest))) : Ends p e below s R n0 Q T (mkF m pc Ls stk) := by
  subst hn hst; obtain ⟨locs, X, N⟩ := P.stand
  obtain ⟨v, _, ⟨T', L', k', n'⟩, -, X', ⟨Lc, hQ, e1, e2, e3⟩, kk⟩ := X.specialBack P.hx (y := y) hy1 P.own' (mvT P.hZ w1) (mvT P.hZ w2) (mvT P.hZ w4) hy (hM.back (W := (rest.map fun v => v.category).sum) P.hZ w4 w3 hr.1 hr.2.1) (g := mkF m pc Ls (argsL.reverse ++ .ref a :: rest)) rfl (hsz.trans P.maxl.symm) (Steps.refl _) (a := a) (argsL := argsL) (rest := rest) (lenOf hp hl) rfl (by show 2 * 0 + _ ≤ _; omega) (hb P.code hd) (fun _ _ => ⟨rfl, P.heap, hr.2.2.1, hr.2.2.2⟩)
  dsimp only [Pt.U, Pt.locs, Pt.cells, Pt.slots] at X' e1 e2 e3 kk hQ
  subst e1 e2 e3
  exact (E T' T'.heap v (P.to X' (Fr.app N hQ.2) rfl) hQ.1).via fun t k => kk.trans k
theorem callV {a : Addr} {C : String} {z : MethodName} {index : Nat} {y : MethodName} {cb : ByteArray} {mL : Nat} {rt : Option FieldType} {rm : Room} {argsL rest stk : List Value} {ps : List FieldType} {r : Option FieldType} {Qc : Option Value → Heap → Prop} (P : Pos p l e R s m args below meth c Z own nm bytes maxL ret n0 T h cells slots) (hd : decode bytes pc = .ok (.invokevirtual index, 3))
    (hM : Meth l Z z cb mL rt rm (.ref a :: argsL).toArray h n0 Qc) (X0 : Exa Z h a C) (w1 : (Cond.methodLink own index y).before a0 Z = true) (w2 : (Cond.declares y).before a0 Z = true) (nf : NotFace s y) (ws : (Cond.selects C y z).before a0 Z = true) (wi : (Cond.instanceMethod z).before a0 Z = true) (w3 : (Cond.initialized z.cls).before a0 Z = true) (w4 : (Cond.code z cb mL rt).before a0 Z = true) (hy : y.cls ≠ "java/lang/invoke/MethodHandle" ∧ y.cls ≠ "java/lang/invoke/VarHandle")
    (hp : parseMethodDescriptor y.desc = some ⟨ps, r⟩) (hl : argsL.length = ps.length) (hst : stk = argsL.reverse ++ .ref a :: rest) (hsz : Ls.size = maxL) (hr : rm.frames + 1 ≤ R.frames ∧ (rest.map fun v => v.category).sum + (mL + 11) + rm.locals ≤ R.locals ∧ cells + rm.cells ≤ R.cells ∧ slots + rm.slots ≤ R.slots) (hn : n = pc + 3)
    (E : ∀ T h' v, Pos p l e R s m args below meth c Z own nm bytes maxL ret n0 T h' (cells + rm.cells) (slots + rm.slots) → Qc v h' → Ends p e below s R n0 Q T (mkF m n Ls (v.toList ++ rest))) : Ends p e below s R n0 Q T (mkF m pc Ls stk) := by
  subst hn hst; obtain ⟨locs, X, N⟩ := P.stand
  obtain ⟨cq, kq, q1, q2, q3⟩ := isOf P.hZ P.heap X0
  obtain ⟨v, _, ⟨T', L', k', n'⟩, -, X', ⟨Lc, hQ, e1, e2, e3⟩, kk⟩ := X.virtualBack P.hx (y := y) (z := z) P.own' (mvT P.hZ w1) (mvT P.hZ w2) nf (mvT P.hZ ws) (mvT P.hZ wi) hy (hM.back (W := (rest.map fun v => v.category).sum) P.hZ w4 w3 hr.1 hr.2.1) q1 q3 (g := mkF m pc Ls (argsL.reverse ++ .ref a :: rest)) rfl (hsz.trans P.maxl.symm) (Steps.refl _) (argsL := argsL) (rest := rest) (lenOf hp hl) rfl (by show 2 * 0 + _ ≤ _; omega) (hb P.code hd) (fun _ _ => ⟨rfl, P.heap, hr.2.2.1, hr.2.2.2⟩)
  dsimp only [Pt.U, Pt.locs, Pt.cells, Pt.slots] at X' e1 e2 e3 kk hQ
  subst e1 e2 e3
  exact (E T' T'.heap v (P.to X' (Fr.app N hQ.2) rfl) hQ.1).via fun t k => kk.trans k
theorem callP {a : Addr} {C : String} {kk : Nat} {index : Nat} {y : MethodName} {cb : ByteArray} {mL : Nat} {rt : Option FieldType} {rm : Room} {argsL rest stk : List Value} {ps : List FieldType} {r : Option FieldType} {Qc : Option Value → Heap → Prop} (P : Pos p l e R s m args below meth c Z own nm bytes maxL ret n0 T h cells slots) (hd : decode bytes pc = .ok (.invokevirtual index, 3))
    (hM : Meth l Z y cb mL rt rm (.ref a :: argsL).toArray h n0 Qc) (X0 : Exa Z h a C) (w1 : (Cond.methodLink own index y).before a0 Z = true) (wi : (Cond.instanceMethod y).before a0 Z = true) (wn : (Cond.instantiable y.cls kk).before a0 Z = true) (wp : (Cond.privateMethod y).before a0 Z = true) (w3 : (Cond.initialized y.cls).before a0 Z = true) (w4 : (Cond.code y cb mL rt).before a0 Z = true) (hy : y.cls ≠ "java/lang/invoke/MethodHandle" ∧ y.cls ≠ "java/lang/invoke/VarHandle")
    (hp : parseMethodDescriptor y.desc = some ⟨ps, r⟩) (hl : argsL.length = ps.length) (hst : stk = argsL.reverse ++ .ref a :: rest) (hsz : Ls.size = maxL) (hr : rm.frames + 1 ≤ R.frames ∧ (rest.map fun v => v.category).sum + (mL + 11) + rm.locals ≤ R.locals ∧ cells + rm.cells ≤ R.cells ∧ slots + rm.slots ≤ R.slots) (hn : n = pc + 3)
    (E : ∀ T h' v, Pos p l e R s m args below meth c Z own nm bytes maxL ret n0 T h' (cells + rm.cells) (slots + rm.slots) → Qc v h' → Ends p e below s R n0 Q T (mkF m n Ls (v.toList ++ rest))) : Ends p e below s R n0 Q T (mkF m pc Ls stk) := by
  subst hn hst; obtain ⟨locs, X, N⟩ := P.stand
  obtain ⟨cq, q1, q2⟩ := X0.cell
  have wi' : (Cond.instanceMethod y).before args s = true := mvT P.hZ wi
  have pv : s.PrivateAt y := Cond.privateMethod_at (mvP P.hZ wp (args := #[]))
  obtain ⟨c0, k0, hc0, hk0, -, hfl, -⟩ := Cond.instantiable_spec (mvT P.hZ wn (args := args))
  have ws : (Cond.selects y.cls y y).before args s = true := selects_self_of_private hc0 hk0 (by simp_all) pv wi' hy
  obtain ⟨v, _, ⟨T', L', k', n'⟩, -, X', ⟨Lc, hQ, e1, e2, e3⟩, kk⟩ := X.privateBack P.hx (y := y) P.own' (mvT P.hZ w1) wi' ws pv (mvT P.hZ w4) hy (hM.back (W := (rest.map fun v => v.category).sum) P.hZ w4 w3 hr.1 hr.2.1) (g := mkF m pc Ls (argsL.reverse ++ .ref a :: rest)) rfl (hsz.trans P.maxl.symm) (Steps.refl _) (a := a) (by rw [P.heap]; exact q1) q2 (argsL := argsL) (rest := rest) (lenOf hp hl) rfl (by show 2 * 0 + _ ≤ _; omega) (hb P.code hd) (fun _ _ => ⟨rfl, P.heap, hr.2.2.1, hr.2.2.2⟩)
  dsimp only [Pt.U, Pt.locs, Pt.cells, Pt.slots] at X' e1 e2 e3 kk hQ
  subst e1 e2 e3
  exact (E T' T'.heap v (P.to X' (Fr.app N hQ.2) rfl) hQ.1).via fun t k => kk.trans k
/-- a constructor's call paid by a given Back -/
theorem callNB {a : Addr} {index : Nat} {y : MethodName} {cb : ByteArray} {mL : Nat} {argsL rest stk : List Value} {ps : List FieldType} {r : Option FieldType} {kc ks : Nat} {QQ : Option Value → Heap → List Loc → Prop} (P : Pos p l e R s m args below meth c Z own nm bytes maxL ret n0 T h cells slots) (hd : decode bytes pc = .ok (.invokespecial index, 3))
    (hB : Back l R p e below s args y 3 (rest.map fun v => v.category).sum (fun A a' => a' = (.ref a :: argsL).toArray ∧ A.U.heap = h ∧ A.cells + kc ≤ R.cells ∧ A.slots + ks ≤ R.slots) (fun A _ v B => ∃ L, QQ v B.U.heap L ∧ B.locs = A.locs ++ L ∧ B.cells = A.cells + kc ∧ B.slots = A.slots + ks))
    (hQF : ∀ v h' L, QQ v h' L → Fr n0 L) (hy1 : y.name = "<init>") (w1 : (Cond.methodLink own index y).before a0 Z = true) (w2 : (Cond.instanceMethod y).before a0 Z = true) (w4 : (Cond.code y cb mL none).before a0 Z = true) (hy : y.cls ≠ "java/lang/invoke/MethodHandle" ∧ y.cls ≠ "java/lang/invoke/VarHandle")
    (hp : parseMethodDescriptor y.desc = some ⟨ps, r⟩) (hl : argsL.length = ps.length) (hst : stk = argsL.reverse ++ .ref a :: rest) (hsz : Ls.size = maxL) (hr : cells + kc ≤ R.cells ∧ slots + ks ≤ R.slots) (hn : n = pc + 3)
    (E : ∀ T h' v L, Pos p l e R s m args below meth c Z own nm bytes maxL ret n0 T h' (cells + kc) (slots + ks) → QQ v h' L → Ends p e below s R n0 Q T (mkF m n Ls (v.toList ++ rest))) : Ends p e below s R n0 Q T (mkF m pc Ls stk) := by
  subst hn hst; obtain ⟨locs, X, N⟩ := P.stand
  obtain ⟨v, _, ⟨T', L', k', n'⟩, -, X', ⟨Lc, hQ, e1, e2, e3⟩, kk⟩ := X.specialBack P.hx (y := y) hy1 P.own' (mvT P.hZ w1) (mvT P.hZ w2) (mvT P.hZ w4) hy hB (g := mkF m pc Ls (argsL.reverse ++ .ref a :: rest)) rfl (hsz.trans P.maxl.symm) (Steps.refl _) (a := a) (argsL := argsL) (rest := rest) (lenOf hp hl) rfl (by show 2 * 0 + _ ≤ _; omega) (hb P.code hd) (fun _ _ => ⟨rfl, P.heap, hr.1, hr.2⟩)
  dsimp only [Pt.U, Pt.locs, Pt.cells, Pt.slots] at X' e1 e2 e3 kk hQ
  subst e1 e2 e3
  exact (E T' T'.heap v Lc (P.to X' (Fr.app N (hQF _ _ _ hQ)) rfl) hQ).via fun t k => kk.trans k
/-- returns v and leaves the heap as it was -/
def Ret (v : Value) (h : Heap) : Option Value → Heap → Prop := fun w h' => w = some v ∧ h' = h
theorem Ret.ofI {x y : Int32} (q : x = y) : Ret (.int y) h (some (.int x)) h := ⟨by rw [q], rfl⟩
theorem Ret.ofL {x y : Int64} (q : x = y) : Ret (.long y) h (some (.long x)) h := ⟨by rw [q], rfl⟩
theorem Ret.ofA {x y : Value} (q : x = y) : Ret y h (some x) h := ⟨by rw [q], rfl⟩
/-- the continuation behind a call that only returns -/
theorem Ret.on {v : Value} {cells' slots' : Nat} {rest : List Value} (E : ∀ T, Pos p l e R s m args below meth c Z own nm bytes maxL ret n0 T h cells' slots' → Ends p e below s R n0 Q T (mkF m n Ls (v :: rest))) :
    ∀ T h' w, Pos p l e R s m args below meth c Z own nm bytes maxL ret n0 T h' cells' slots' → Ret v h w h' → Ends p e below s R n0 Q T (mkF m n Ls (w.toList ++ rest)) := by
  rintro T h' w P ⟨rfl, rfl⟩; exact E T P

/-- returns nothing and leaves the heap as it was -/
def RetV (h : Heap) : Option Value → Heap → Prop := fun w h' => w = none ∧ h' = h
theorem RetV.mk : RetV h none h := ⟨rfl, rfl⟩
theorem RetV.on {cells' slots' : Nat} {rest : List Value} (E : ∀ T, Pos p l e R s m args below meth c Z own nm bytes maxL ret n0 T h cells' slots' → Ends p e below s R n0 Q T (mkF m n Ls rest)) :
    ∀ T h' w, Pos p l e R s m args below meth c Z own nm bytes maxL ret n0 T h' cells' slots' → RetV h w h' → Ends p e below s R n0 Q T (mkF m n Ls (w.toList ++ rest)) := by
  rintro T h' w P ⟨rfl, rfl⟩; exact E T P
/-- returns an int (a long) of which F holds, and leaves the heap as it was -/
def RetI (F : Int32 → Prop) (h : Heap) : Option Value → Heap → Prop := fun w h' => ∃ z, w = some (.int z) ∧ F z ∧ h' = h
def RetJ (F : Int64 → Prop) (h : Heap) : Option Value → Heap → Prop := fun w h' => ∃ z, w = some (.long z) ∧ F z ∧ h' = h
theorem RetI.mk {F : Int32 → Prop} {x : Int32} (q : F x) : RetI F h (some (.int x)) h := ⟨x, rfl, q, rfl⟩
theorem RetJ.mk {F : Int64 → Prop} {x : Int64} (q : F x) : RetJ F h (some (.long x)) h := ⟨x, rfl, q, rfl⟩
theorem RetI.on {F : Int32 → Prop} {cells' slots' : Nat} {rest : List Value} (E : ∀ T z, Pos p l e R s m args below meth c Z own nm bytes maxL ret n0 T h cells' slots' → F z → Ends p e below s R n0 Q T (mkF m n Ls (.int z :: rest))) :
    ∀ T h' w, Pos p l e R s m args below meth c Z own nm bytes maxL ret n0 T h' cells' slots' → RetI F h w h' → Ends p e below s R n0 Q T (mkF m n Ls (w.toList ++ rest)) := by
  rintro T h' w P ⟨z, rfl, q, rfl⟩; exact E T z P q
theorem RetJ.on {F : Int64 → Prop} {cells' slots' : Nat} {rest : List Value} (E : ∀ T z, Pos p l e R s m args below meth c Z own nm bytes maxL ret n0 T h cells' slots' → F z → Ends p e below s R n0 Q T (mkF m n Ls (.long z :: rest))) :
    ∀ T h' w, Pos p l e R s m args below meth c Z own nm bytes maxL ret n0 T h' cells' slots' → RetJ F h w h' → Ends p e below s R n0 Q T (mkF m n Ls (w.toList ++ rest)) := by
  rintro T h' w P ⟨z, rfl, q, rfl⟩; exact E T z P q
end Core
/-! numbers: what an operation is worth where nothing wraps -/
section Num
theorem n_iadd {x y z : Int32} {X Y : Int} (hz : z = x + y) (hx : x.toInt = X) (hy : y.toInt = Y) (b : -2147483648 ≤ X + Y ∧ X + Y ≤ 2147483647) : z.toInt = X + Y := by
  subst hz hx hy; have := c_iadd x y; have := rng32 (x + y); omega
theorem n_isub {x y z : Int32} {X Y : Int} (hz : z = x - y) (hx : x.toInt = X) (hy : y.toInt = Y) (b : -2147483648 ≤ X - Y ∧ X - Y ≤ 2147483647) : z.toInt = X - Y := by
  subst hz hx hy; have := c_isub x y; have := rng32 (x - y); omega
theorem n_imul {x y z : Int32} {X Y : Int} (hz : z = x * y) (hx : x.toInt = X) (hy : y.toInt = Y) (b : -2147483648 ≤ X * Y ∧ X * Y ≤ 2147483647) : z.toInt = X * Y := by
  subst hz hx hy; have h1 := c_imul x y; have := rng32 (x * y); generalize x.toInt * y.toInt = w at *; omega
theorem n_ladd {x y z : Int64} {X Y : Int} (hz : z = x + y) (hx : x.toInt = X) (hy : y.toInt = Y) (b : -9223372036854775808 ≤ X + Y ∧ X + Y ≤ 9223372036854775807) : z.toInt = X + Y := by
  subst hz hx hy; have := c_ladd x y; have := rng64 (x + y); omega
theorem n_lsub {x y z : Int64} {X Y : Int} (hz : z = x - y) (hx : x.toInt = X) (hy : y.toInt = Y) (b : -9223372036854775808 ≤ X - Y ∧ X - Y ≤ 9223372036854775807) : z.toInt = X - Y := by
  subst hz hx hy; have := c_lsub x y; have := rng64 (x - y); omega
theorem n_lmul {x y z : Int64} {X Y : Int} (hz : z = x * y) (hx : x.toInt = X) (hy : y.toInt = Y) (b : -9223372036854775808 ≤ X * Y ∧ X * Y ≤ 9223372036854775807) : z.toInt = X * Y := by
  subst hz hx hy; have h1 := c_lmul x y; have := rng64 (x * y); generalize x.toInt * y.toInt = w at *; omega
theorem n_i2l {x : Int32} {z : Int64} {X : Int} (hz : z = x.toInt64) (hx : x.toInt = X) : z.toInt = X := by subst hz hx; exact c_i2l x
theorem n_irem {x y z : Int32} {X Y : Int} (hz : z = x % y) (hx : x.toInt = X) (hy : y.toInt = Y) (b : 0 ≤ X) : z.toInt = X % Y := by
  subst hz hx; exact (c_irem x y Y hy).1 b
theorem n_idiv {x y z : Int32} {X Y : Int} (hz : z = x / y) (hx : x.toInt = X) (hy : y.toInt = Y) (b : 0 ≤ X ∧ 0 < Y) : z.toInt = X / Y := by
  subst hz hx; exact (c_idiv x y Y hy (fun q => by subst q; have : (-1 : Int32).toInt = -1 := rfl; omega)).1 b.1
theorem n_ldiv {x y z : Int64} {X Y : Int} (hz : z = x / y) (hx : x.toInt = X) (hy : y.toInt = Y) (b : 0 ≤ X ∧ 0 < Y) : z.toInt = X / Y := by
  subst hz hx; exact (c_ldiv x y Y hy (fun q => by subst q; have : (-1 : Int64).toInt = -1 := rfl; omega)).1 b.1
theorem n_mask {x m z : Int32} {X : Int} (k : Nat) (hz : z = x &&& m) (hx : x.toInt = X) (hk : k ≤ 31 ∧ m.toBitVec.toNat = 2 ^ k - 1) : z.toInt = X % (2 ^ k : Nat) := by subst hz hx; exact c_mask x m k hk.1 hk.2
theorem n_maskL {x m z : Int64} {X : Int} (k : Nat) (hz : z = x &&& m) (hx : x.toInt = X) (hk : k ≤ 63 ∧ m.toBitVec.toNat = 2 ^ k - 1) : z.toInt = X % (2 ^ k : Nat) := by subst hz hx; exact c_maskL x m k hk.1 hk.2
theorem n_iushr {x q z : Int32} {X : Int} (k : Nat) (hz : z = (x.toUInt32 >>> (q &&& 31).toUInt32).toInt32) (hx : x.toInt = X) (hk : q.toBitVec.toNat % 32 = k ∧ 0 < k) : z.toInt = (X % 4294967296) / (2 ^ k : Nat) := by subst hz hx; exact c_iushr x q k hk.1 hk.2
theorem n_ishr {x q z : Int32} {X : Int} (k : Nat) (hz : z = x >>> (q &&& 31)) (hx : x.toInt = X) (hk : q.toBitVec.toNat % 32 = k) : z.toInt = X / (2 ^ k : Nat) := by subst hz hx; exact c_ishr x q k hk
theorem n_iremV {x y z : Int32} (hz : z = x % y) (hx : 0 ≤ x.toInt) (hy : 0 < y.toInt) : 0 ≤ z.toInt ∧ z.toInt < y.toInt := by
  subst hz; have := (c_iremV x y).1 hx hy; omega
theorem nzI {y : Int32} (h : ¬ y.toInt = 0) : y ≠ 0 := fun q => h (by rw [q]; rfl)
theorem nzL {y : Int64} (h : ¬ y.toInt = 0) : y ≠ 0 := fun q => h (by rw [q]; rfl)
theorem b8 (x : Int32) : x.toInt8.toInt32.toInt8.toInt32 = x.toInt8.toInt32 := by simp
theorem eqI {x y : Int32} (h : x.toInt = y.toInt) : x = y := Int32.toInt_inj.mp h
theorem eqL {x y : Int64} (h : x.toInt = y.toInt) : x = y := Int64.toInt_inj.mp h
theorem ofI {x : Int32} {X : Int} (h : x.toInt = X) : x = Int32.ofInt X := by rw [← h]; exact (Int32.ofInt_toInt x).symm
theorem ofL {x : Int64} {X : Int} (h : x.toInt = X) : x = Int64.ofInt X := by rw [← h]; exact (Int64.ofInt_toInt x).symm
end Num
end Jvm.Own
namespace Jvm.Pilot.@@N@@
open Jvm Jvm.ClassFile Sem Op Lib Jvm.Free Jvm.Stand Jvm.LawKit Jvm.RoadKit Bundle Jvm.Pilot.@@N@@.Jvm.D
open Jvm.Own
theorem d3_0 : decode jdk_30_method_1_code 0 = .ok (.aload_n 0, 1) := by decide +kernel
theorem d3_1 : decode jdk_30_method_1_code 1 = .ok (.invokespecial 1, 3) := by decide +kernel
theorem d3_4 : decode jdk_30_method_1_code 4 = .ok (.return_, 1) := by decide +kernel
theorem ef_3 (m : MethodId) (a : Addr) : entryFrame m #[(.ref a)] 1 = mkF m 0 #[.val (.ref a)] [] := by first | (simp [entryFrame, mkF, argsToLocals, Value.category]; done) | rfl
theorem pn_0 : plainName "java/lang/Record" = true := by first | (simp [plainName, overriddenIn]; done) | decide +kernel
abbrev rm_c_rec : Room := { frames := 1, cells := 0, slots := 0, locals := 12 }
set_option maxRecDepth 65536 in
set_option maxHeartbeats 40000000 in
theorem c_rec (l : Launch) (Z : State) (a0 : Array Value) (hw : ∀ d ∈ tables_1, d.before a0 Z = true) (a : Addr)  (h0 : Heap) (n0 : Nat) (low : n0 ≤ h0.size)  :
    Meth l Z (⟨"java/lang/Record", "<init>", "()V"⟩ : MethodName) jdk_30_method_1_code 1 none rm_c_rec #[(.ref a)] h0 n0 (RetV h0) := by
  refine Meth.of (plainFor_of_name pn_0) low ?_
  intro p e s m args below meth c T P
  refine Ends.cast (ef_3 m a) ?_
  refine aloadN P d3_0 rfl rfl (n := 1) rfl ?_
  refine initO P d3_1 (hw _ (List.mem_of_getElem? (i := 20) rfl)) (hw _ (List.mem_of_getElem? (i := 21) rfl)) (hw _ (List.mem_of_getElem? (i := 22) rfl)) rfl (by decide) (Nat.le_of_ble_eq_true rfl) (n := 4) rfl ?_
  intro T P
  refine retV P d3_4 (by decide) (by decide) ?_
  exact RetV.mk
theorem d1_0 : decode method_2_code 0 = .ok (.iload_n 0, 1) := by decide +kernel
theorem d1_1 : decode method_2_code 1 = .ok (.iconst 1, 1) := by decide +kernel
theorem d1_2 : decode method_2_code 2 = .ok (.if_icmp .ne 7, 3) := by decide +kernel
theorem d1_5 : decode method_2_code 5 = .ok (.getstatic 7, 3) := by decide +kernel
theorem d1_8 : decode method_2_code 8 = .ok (.areturn, 1) := by decide +kernel
theorem d1_9 : decode method_2_code 9 = .ok (.iload_n 0, 1) := by decide +kernel
theorem d1_10 : decode method_2_code 10 = .ok (.iconst 2, 1) := by decide +kernel
theorem d1_11 : decode method_2_code 11 = .ok (.if_icmp .ne 7, 3) := by decide +kernel
theorem d1_14 : decode method_2_code 14 = .ok (.getstatic 13, 3) := by decide +kernel
theorem d1_17 : decode method_2_code 17 = .ok (.areturn, 1) := by decide +kernel
theorem d1_18 : decode method_2_code 18 = .ok (.getstatic 16, 3) := by decide +kernel
theorem d1_21 : decode method_2_code 21 = .ok (.areturn, 1) := by decide +kernel
theorem ef_1 (m : MethodId) (u : Int32) : entryFrame m #[(.int u)] 1 = mkF m 0 #[.val (.int u)] [] := by first | (simp [entryFrame, mkF, argsToLocals, Value.category]; done) | rfl
theorem pn_1 : plainName "com/example/spanwise/spanwise/trees/BracketTotalsPrecisionPinLaw" = true := by first | (simp [plainName, overriddenIn]; done) | decide +kernel
abbrev rm_c_stat : Room := { frames := 0, cells := 0, slots := 0, locals := 0 }
set_option maxRecDepth 65536 in
set_option maxHeartbeats 40000000 in
theorem c_stat (l : Launch) (Z : State) (a0 : Array Value) (hw : ∀ d ∈ tables_1, d.before a0 Z = true) (u : Int32) (xv xe xk : Addr) (h0 : Heap) (n0 : Nat) (low : n0 ≤ h0.size) (S_v : Sta Z h0 "com/example/spanwise/spanwise/trees/SentenceScore$Status" "VALID" "Lcom/example/spanwise/spanwise/trees/SentenceScore$Status;" (.ref xv)) (S_e : Sta Z h0 "com/example/spanwise/spanwise/trees/SentenceScore$Status" "ERROR" "Lcom/example/spanwise/spanwise/trees/SentenceScore$Status;" (.ref xe)) (S_k : Sta Z h0 "com/example/spanwise/spanwise/trees/SentenceScore$Status" "SKIPPED" "Lcom/example/spanwise/spanwise/trees/SentenceScore$Status;" (.ref xk)) :
    Meth l Z (⟨"com/example/spanwise/spanwise/trees/BracketTotalsPrecisionPinLaw", "status", "(I)Lcom/example/spanwise/spanwise/trees/SentenceScore$Status;"⟩ : MethodName) method_2_code 1 (some (.object "com/example/spanwise/spanwise/trees/SentenceScore$Status")) rm_c_stat #[(.int u)] h0 n0 (Ret (.ref (if u.toInt = 1 then xe else if u.toInt = 2 then xk else xv)) h0) := by
  refine Meth.of (plainFor_of_name pn_1) low ?_
  intro p e s m args below meth c T P
  refine Ends.cast (ef_1 m u) ?_
  refine iloadN P d1_0 rfl (n := 1) rfl ?_
  refine iconst P d1_1 (x := (1 : Int32)) rfl (n := 2) rfl ?_
  refine icmp_ne P d1_2 (n' := 9) (n := 5) (by decide) rfl (fun hc2 => ?_) (fun hc2 => ?_)
  · -- pc 2 taken
    replace hc2 : ¬ u.toInt = (1 : Int) := hc2
    refine iloadN P d1_9 rfl (n := 10) rfl ?_
    refine iconst P d1_10 (x := (2 : Int32)) rfl (n := 11) rfl ?_
    refine icmp_ne P d1_11 (n' := 18) (n := 14) (by decide) rfl (fun hc11 => ?_) (fun hc11 => ?_)
    · -- pc 11 taken
      replace hc11 : ¬ u.toInt = (2 : Int) := hc11
      refine getS P d1_18 (hw _ (List.mem_of_getElem? (i := 6) rfl)) S_v (n := 21) rfl ?_
      intro T P
      refine retR P d1_21 rfl (by decide) (by decide) ?_
      refine Ret.ofA ?_
      first | rw [if_pos (by omega)] | rw [if_neg (by omega), if_pos (by omega)] | rw [if_neg (by omega), if_neg (by omega)]
    · -- pc 11 not taken
      replace hc11 : u.toInt = (2 : Int) := hc11
      refine getS P d1_14 (hw _ (List.mem_of_getElem? (i := 123) rfl)) S_k (n := 17) rfl ?_
      intro T P
      refine retR P d1_17 rfl (by decide) (by decide) ?_
      refine Ret.ofA ?_
      first | rw [if_pos (by omega)] | rw [if_neg (by omega), if_pos (by omega)] | rw [if_neg (by omega), if_neg (by omega)]
  · -- pc 2 not taken
    replace hc2 : u.toInt = (1 : Int) := hc2
    refine getS P d1_5 (hw _ (List.mem_of_getElem? (i := 126) rfl)) S_e (n := 8) rfl ?_
    intro T P
    refine retR P d1_8 rfl (by decide) (by decide) ?_
    refine Ret.ofA ?_
    first | rw [if_pos (by omega)] | rw [if_neg (by omega), if_pos (by omega)] | rw [if_neg (by omega), if_neg (by omega)]
theorem d2_0 : decode prog_95_method_1_code 0 = .ok (.aload_n 0, 1) := by decide +kernel
theorem d2_1 : decode prog_95_method_1_code 1 = .ok (.invokespecial 1, 3) := by decide +kernel
theorem d2_4 : decode prog_95_method_1_code 4 = .ok (.aload_n 0, 1) := by decide +kernel
theorem d2_5 : decode prog_95_method_1_code 5 = .ok (.aload_n 1, 1) := by decide +kernel
theorem d2_6 : decode prog_95_method_1_code 6 = .ok (.putfield 7, 3) := by decide +kernel
theorem d2_9 : decode prog_95_method_1_code 9 = .ok (.aload_n 0, 1) := by decide +kernel
theorem d2_10 : decode prog_95_method_1_code 10 = .ok (.iload_n 2, 1) := by decide +kernel
theorem d2_11 : decode prog_95_method_1_code 11 = .ok (.putfield 13, 3) := by decide +kernel
theorem d2_14 : decode prog_95_method_1_code 14 = .ok (.aload_n 0, 1) := by decide +kernel
theorem d2_15 : decode prog_95_method_1_code 15 = .ok (.iload_n 3, 1) := by decide +kernel
theorem d2_16 : decode prog_95_method_1_code 16 = .ok (.putfield 17, 3) := by decide +kernel
theorem d2_19 : decode prog_95_method_1_code 19 = .ok (.aload_n 0, 1) := by decide +kernel
theorem d2_20 : decode prog_95_method_1_code 20 = .ok (.iload 4, 2) := by decide +kernel
theorem d2_22 : decode prog_95_method_1_code 22 = .ok (.putfield 20, 3) := by decide +kernel
theorem d2_25 : decode prog_95_method_1_code 25 = .ok (.aload_n 0, 1) := by decide +kernel
theorem d2_26 : decode prog_95_method_1_code 26 = .ok (.iload 5, 2) := by decide +kernel
theorem d2_28 : decode prog_95_method_1_code 28 = .ok (.putfield 23, 3) := by decide +kernel
theorem d2_31 : decode prog_95_method_1_code 31 = .ok (.aload_n 0, 1) := by decide +kernel
theorem d2_32 : decode prog_95_method_1_code 32 = .ok (.iload 6, 2) := by decide +kernel
theorem d2_34 : decode prog_95_method_1_code 34 = .ok (.putfield 26, 3) := by decide +kernel
theorem d2_37 : decode prog_95_method_1_code 37 = .ok (.aload_n 0, 1) := by decide +kernel
theorem d2_38 : decode prog_95_method_1_code 38 = .ok (.iload 7, 2) := by decide +kernel
theorem d2_40 : decode prog_95_method_1_code 40 = .ok (.putfield 29, 3) := by decide +kernel
theorem d2_43 : decode prog_95_method_1_code 43 = .ok (.aload_n 0, 1) := by decide +kernel
theorem d2_44 : decode prog_95_method_1_code 44 = .ok (.iload 8, 2) := by decide +kernel
theorem d2_46 : decode prog_95_method_1_code 46 = .ok (.putfield 32, 3) := by decide +kernel
theorem d2_49 : decode prog_95_method_1_code 49 = .ok (.aload_n 0, 1) := by decide +kernel
theorem d2_50 : decode prog_95_method_1_code 50 = .ok (.aload 9, 2) := by decide +kernel
theorem d2_52 : decode prog_95_method_1_code 52 = .ok (.putfield 35, 3) := by decide +kernel
theorem d2_55 : decode prog_95_method_1_code 55 = .ok (.return_, 1) := by decide +kernel
theorem ef_2 (m : MethodId) (a : Addr) (us : Addr) (u1 : Int32) (u2 : Int32) (u3 : Int32) (u4 : Int32) (u5 : Int32) (u6 : Int32) (u7 : Int32) : entryFrame m #[(.ref a), (.ref us), (.int u1), (.int u2), (.int u3), (.int u4), (.int u5), (.int u6), (.int u7), .null] 10 = mkF m 0 #[.val (.ref a), .val (.ref us), .val (.int u1), .val (.int u2), .val (.int u3), .val (.int u4), .val (.int u5), .val (.int u6), .val (.int u7), .val .null] [] := by first | (simp [entryFrame, mkF, argsToLocals, Value.category]; done) | rfl
theorem pn_2 : plainName "com/example/spanwise/spanwise/trees/SentenceScore" = true := by first | (simp [plainName, overriddenIn]; done) | decide +kernel
theorem pd_0 : parseMethodDescriptor "()V" = some ⟨[], none⟩ := by decide +kernel
abbrev rm_c_score : Room := { frames := 2, cells := 0, slots := 0, locals := 24 }
set_option maxRecDepth 65536 in
set_option maxHeartbeats 40000000 in
theorem c_score (l : Launch) (Z : State) (a0 : Array Value) (hw : ∀ d ∈ tables_1, d.before a0 Z = true) (a : Addr) (us : Addr) (u1 : Int32) (u2 : Int32) (u3 : Int32) (u4 : Int32) (u5 : Int32) (u6 : Int32) (u7 : Int32)  (h0 : Heap) (n0 : Nat) (low : n0 ≤ h0.size) (E_a : Exa Z h0 a "com/example/spanwise/spanwise/trees/SentenceScore") (F_status : Fld Z h0 a "com/example/spanwise/spanwise/trees/SentenceScore" "status" "Lcom/example/spanwise/spanwise/trees/SentenceScore$Status;" .null) (F_length : Fld Z h0 a "com/example/spanwise/spanwise/trees/SentenceScore" "length" "I" (.int (0 : Int32))) (F_goldBrackets : Fld Z h0 a "com/example/spanwise/spanwise/trees/SentenceScore" "goldBrackets" "I" (.int (0 : Int32))) (F_parsedBrackets : Fld Z h0 a "com/example/spanwise/spanwise/trees/SentenceScore" "parsedBrackets" "I" (.int (0 : Int32))) (F_matchedBrackets : Fld Z h0 a "com/example/spanwise/spanwise/trees/SentenceScore" "matchedBrackets" "I" (.int (0 : Int32))) (F_crossingBrackets : Fld Z h0 a "com/example/spanwise/spanwise/trees/SentenceScore" "crossingBrackets" "I" (.int (0 : Int32))) (F_words : Fld Z h0 a "com/example/spanwise/spanwise/trees/SentenceScore" "words" "I" (.int (0 : Int32))) (F_correctTags : Fld Z h0 a "com/example/spanwise/spanwise/trees/SentenceScore" "correctTags" "I" (.int (0 : Int32))) (F_mismatch : Fld Z h0 a "com/example/spanwise/spanwise/trees/SentenceScore" "mismatch" "Lcom/example/spanwise/spanwise/trees/SentenceScore$Mismatch;" .null) (lo : n0 ≤ a) :
    Meth l Z (⟨"com/example/spanwise/spanwise/trees/SentenceScore", "<init>", "(Lcom/example/spanwise/spanwise/trees/SentenceScore$Status;IIIIIIILcom/example/spanwise/spanwise/trees/SentenceScore$Mismatch;)V"⟩ : MethodName) prog_95_method_1_code 10 none rm_c_score #[(.ref a), (.ref us), (.int u1), (.int u2), (.int u3), (.int u4), (.int u5), (.int u6), (.int u7), .null] h0 n0 (fun v h => v = none ∧ Keep h0 h [a] ∧ Fld Z h a "com/example/spanwise/spanwise/trees/SentenceScore" "status" "Lcom/example/spanwise/spanwise/trees/SentenceScore$Status;" (.ref us) ∧ Fld Z h a "com/example/spanwise/spanwise/trees/SentenceScore" "goldBrackets" "I" (.int u2) ∧ Fld Z h a "com/example/spanwise/spanwise/trees/SentenceScore" "parsedBrackets" "I" (.int u3) ∧ Fld Z h a "com/example/spanwise/spanwise/trees/SentenceScore" "matchedBrackets" "I" (.int u4) ∧ Fld Z h a "com/example/spanwise/spanwise/trees/SentenceScore" "crossingBrackets" "I" (.int u5) ∧ Fld Z h a "com/example/spanwise/spanwise/trees/SentenceScore" "words" "I" (.int u6) ∧ Fld Z h a "com/example/spanwise/spanwise/trees/SentenceScore" "correctTags" "I" (.int u7)) := by
  refine Meth.of (plainFor_of_name pn_2) low ?_
  intro p e s m args below meth c T P
  refine Ends.cast (ef_2 m a us u1 u2 u3 u4 u5 u6 u7) ?_
  have K := Keep.refl h0 [a]
  refine aloadN P d2_0 rfl rfl (n := 1) rfl ?_
  refine callN P d2_1 (a := a) (argsL := []) (rest := []) (c_rec l Z a0 hw a h0 n0 P.low ) rfl (hw _ (List.mem_of_getElem? (i := 15) rfl)) (hw _ (List.mem_of_getElem? (i := 16) rfl)) (hw _ (List.mem_of_getElem? (i := 18) rfl)) (hw _ (List.mem_of_getElem? (i := 19) rfl)) (by decide) pd_0 rfl rfl rfl ⟨by decide, Nat.le_of_ble_eq_true rfl, by decide, by decide⟩ (n := 4) rfl (RetV.on ?_)
  intro T P
  refine aloadN P d2_4 rfl rfl (n := 5) rfl ?_
  refine aloadN P d2_5 rfl rfl (n := 6) rfl ?_
  refine putF P d2_6 (hw _ (List.mem_of_getElem? (i := 23) rfl)) F_status E_a (Or.inr ⟨(hw _ (List.mem_of_getElem? (i := 24) rfl)), rfl, rfl⟩) (hw _ (List.mem_of_getElem? (i := 10) rfl)) (ty := (.object "com/example/spanwise/spanwise/trees/SentenceScore$Status")) (by decide) rfl rfl lo (n := 9) rfl ?_
  intro T h1 P W2
  replace E_a := Exa.wr W2 E_a
  replace F_length := Fld.other W2 F_length (Or.inr (slot_ne (Or.inr (hw _ (List.mem_of_getElem? (i := 26) rfl))) (Or.inr (hw _ (List.mem_of_getElem? (i := 24) rfl))) (by decide) (t := .int) (t' := (.object "com/example/spanwise/spanwise/trees/SentenceScore$Status")) (by decide) (by decide)))
  replace F_goldBrackets := Fld.other W2 F_goldBrackets (Or.inr (slot_ne (Or.inr (hw _ (List.mem_of_getElem? (i := 28) rfl))) (Or.inr (hw _ (List.mem_of_getElem? (i := 24) rfl))) (by decide) (t := .int) (t' := (.object "com/example/spanwise/spanwise/trees/SentenceScore$Status")) (by decide) (by decide)))
  replace F_parsedBrackets := Fld.other W2 F_parsedBrackets (Or.inr (slot_ne (Or.inr (hw _ (List.mem_of_getElem? (i := 30) rfl))) (Or.inr (hw _ (List.mem_of_getElem? (i := 24) rfl))) (by decide) (t := .int) (t' := (.object "com/example/spanwise/spanwise/trees/SentenceScore$Status")) (by decide) (by decide)))
  replace F_matchedBrackets := Fld.other W2 F_matchedBrackets (Or.inr (slot_ne (Or.inr (hw _ (List.mem_of_getElem? (i := 32) rfl))) (Or.inr (hw _ (List.mem_of_getElem? (i := 24) rfl))) (by decide) (t := .int) (t' := (.object "com/example/spanwise/spanwise/trees/SentenceScore$Status")) (by decide) (by decide)))
  replace F_crossingBrackets := Fld.other W2 F_crossingBrackets (Or.inr (slot_ne (Or.inr (hw _ (List.mem_of_getElem? (i := 34) rfl))) (Or.inr (hw _ (List.mem_of_getElem? (i := 24) rfl))) (by decide) (t := .int) (t' := (.object "com/example/spanwise/spanwise/trees/SentenceScore$Status")) (by decide) (by decide)))
  replace F_words := Fld.other W2 F_words (Or.inr (slot_ne (Or.inr (hw _ (List.mem_of_getElem? (i := 36) rfl))) (Or.inr (hw _ (List.mem_of_getElem? (i := 24) rfl))) (by decide) (t := .int) (t' := (.object "com/example/spanwise/spanwise/trees/SentenceScore$Status")) (by decide) (by decide)))
  replace F_correctTags := Fld.other W2 F_correctTags (Or.inr (slot_ne (Or.inr (hw _ (List.mem_of_getElem? (i := 38) rfl))) (Or.inr (hw _ (List.mem_of_getElem? (i := 24) rfl))) (by decide) (t := .int) (t' := (.object "com/example/spanwise/spanwise/trees/SentenceScore$Status")) (by decide) (by decide)))
  replace F_mismatch := Fld.other W2 F_mismatch (Or.inr (slot_ne (Or.inr (hw _ (List.mem_of_getElem? (i := 40) rfl))) (Or.inr (hw _ (List.mem_of_getElem? (i := 24) rfl))) (by decide) (t := (.object "com/example/spanwise/spanwise/trees/SentenceScore$Mismatch")) (t' := (.object "com/example/spanwise/spanwise/trees/SentenceScore$Status")) (by decide) (by decide)))
  replace F_status := Fld.same W2 F_status
  have K := Keep.wr K W2 (Or.inl (by simp))
  refine aloadN P d2_9 rfl rfl (n := 10) rfl ?_
  refine iloadN P d2_10 rfl (n := 11) rfl ?_
  refine putF P d2_11 (hw _ (List.mem_of_getElem? (i := 25) rfl)) F_length E_a (Or.inr ⟨(hw _ (List.mem_of_getElem? (i := 26) rfl)), rfl, rfl⟩) (hw _ (List.mem_of_getElem? (i := 10) rfl)) (ty := .int) (by decide) rfl rfl lo (n := 14) rfl ?_
  intro T h3 P W4
  replace E_a := Exa.wr W4 E_a
  replace F_status := Fld.other W4 F_status (Or.inr (slot_ne (Or.inr (hw _ (List.mem_of_getElem? (i := 24) rfl))) (Or.inr (hw _ (List.mem_of_getElem? (i := 26) rfl))) (by decide) (t := (.object "com/example/spanwise/spanwise/trees/SentenceScore$Status")) (t' := .int) (by decide) (by decide)))
  replace F_goldBrackets := Fld.other W4 F_goldBrackets (Or.inr (slot_ne (Or.inr (hw _ (List.mem_of_getElem? (i := 28) rfl))) (Or.inr (hw _ (List.mem_of_getElem? (i := 26) rfl))) (by decide) (t := .int) (t' := .int) (by decide) (by decide)))
  replace F_parsedBrackets := Fld.other W4 F_parsedBrackets (Or.inr (slot_ne (Or.inr (hw _ (List.mem_of_getElem? (i := 30) rfl))) (Or.inr (hw _ (List.mem_of_getElem? (i := 26) rfl))) (by decide) (t := .int) (t' := .int) (by decide) (by decide)))
  replace F_matchedBrackets := Fld.other W4 F_matchedBrackets (Or.inr (slot_ne (Or.inr (hw _ (List.mem_of_getElem? (i := 32) rfl))) (Or.inr (hw _ (List.mem_of_getElem? (i := 26) rfl))) (by decide) (t := .int) (t' := .int) (by decide) (by decide)))
  replace F_crossingBrackets := Fld.other W4 F_crossingBrackets (Or.inr (slot_ne (Or.inr (hw _ (List.mem_of_getElem? (i := 34) rfl))) (Or.inr (hw _ (List.mem_of_getElem? (i := 26) rfl))) (by decide) (t := .int) (t' := .int) (by decide) (by decide)))
  replace F_words := Fld.other W4 F_words (Or.inr (slot_ne (Or.inr (hw _ (List.mem_of_getElem? (i := 36) rfl))) (Or.inr (hw _ (List.mem_of_getElem? (i := 26) rfl))) (by decide) (t := .int) (t' := .int) (by decide) (by decide)))
  replace F_correctTags := Fld.other W4 F_correctTags (Or.inr (slot_ne (Or.inr (hw _ (List.mem_of_getElem? (i := 38) rfl))) (Or.inr (hw _ (List.mem_of_getElem? (i := 26) rfl))) (by decide) (t := .int) (t' := .int) (by decide) (by decide)))
  replace F_mismatch := Fld.other W4 F_mismatch (Or.inr (slot_ne (Or.inr (hw _ (List.mem_of_getElem? (i := 40) rfl))) (Or.inr (hw _ (List.mem_of_getElem? (i := 26) rfl))) (by decide) (t := (.object "com/example/spanwise/spanwise/trees/SentenceScore$Mismatch")) (t' := .int) (by decide) (by decide)))
  replace F_length := Fld.same W4 F_length
  have K := Keep.wr K W4 (Or.inl (by simp))
  refine aloadN P d2_14 rfl rfl (n := 15) rfl ?_
  refine iloadN P d2_15 rfl (n := 16) rfl ?_
  refine putF P d2_16 (hw _ (List.mem_of_getElem? (i := 27) rfl)) F_goldBrackets E_a (Or.inr ⟨(hw _ (List.mem_of_getElem? (i := 28) rfl)), rfl, rfl⟩) (hw _ (List.mem_of_getElem? (i := 10) rfl)) (ty := .int) (by decide) rfl rfl lo (n := 19) rfl ?_
  intro T h5 P W6
  replace E_a := Exa.wr W6 E_a
  replace F_status := Fld.other W6 F_status (Or.inr (slot_ne (Or.inr (hw _ (List.mem_of_getElem? (i := 24) rfl))) (Or.inr (hw _ (List.mem_of_getElem? (i := 28) rfl))) (by decide) (t := (.object "com/example/spanwise/spanwise/trees/SentenceScore$Status")) (t' := .int) (by decide) (by decide)))
  replace F_length := Fld.other W6 F_length (Or.inr (slot_ne (Or.inr (hw _ (List.mem_of_getElem? (i := 26) rfl))) (Or.inr (hw _ (List.mem_of_getElem? (i := 28) rfl))) (by decide) (t := .int) (t' := .int) (by decide) (by decide)))
  replace F_parsedBrackets := Fld.other W6 F_parsedBrackets (Or.inr (slot_ne (Or.inr (hw _ (List.mem_of_getElem? (i := 30) rfl))) (Or.inr (hw _ (List.mem_of_getElem? (i := 28) rfl))) (by decide) (t := .int) (t' := .int) (by decide) (by decide)))
  replace F_matchedBrackets := Fld.other W6 F_matchedBrackets (Or.inr (slot_ne (Or.inr (hw _ (List.mem_of_getElem? (i := 32) rfl))) (Or.inr (hw _ (List.mem_of_getElem? (i := 28) rfl))) (by decide) (t := .int) (t' := .int) (by decide) (by decide)))
  replace F_crossingBrackets := Fld.other W6 F_crossingBrackets (Or.inr (slot_ne (Or.inr (hw _ (List.mem_of_getElem? (i := 34) rfl))) (Or.inr (hw _ (List.mem_of_getElem? (i := 28) rfl))) (by decide) (t := .int) (t' := .int) (by decide) (by decide)))
  replace F_words := Fld.other W6 F_words (Or.inr (slot_ne (Or.inr (hw _ (List.mem_of_getElem? (i := 36) rfl))) (Or.inr (hw _ (List.mem_of_getElem? (i := 28) rfl))) (by decide) (t := .int) (t' := .int) (by decide) (by decide)))
  replace F_correctTags := Fld.other W6 F_correctTags (Or.inr (slot_ne (Or.inr (hw _ (List.mem_of_getElem? (i := 38) rfl))) (Or.inr (hw _ (List.mem_of_getElem? (i := 28) rfl))) (by decide) (t := .int) (t' := .int) (by decide) (by decide)))
  replace F_mismatch := Fld.other W6 F_mismatch (Or.inr (slot_ne (Or.inr (hw _ (List.mem_of_getElem? (i := 40) rfl))) (Or.inr (hw _ (List.mem_of_getElem? (i := 28) rfl))) (by decide) (t := (.object "com/example/spanwise/spanwise/trees/SentenceScore$Mismatch")) (t' := .int) (by decide) (by decide)))
  replace F_goldBrackets := Fld.same W6 F_goldBrackets
  have K := Keep.wr K W6 (Or.inl (by simp))
  refine aloadN P d2_19 rfl rfl (n := 20) rfl ?_
  refine iload P d2_20 rfl (n := 22) rfl ?_
  refine putF P d2_22 (hw _ (List.mem_of_getElem? (i := 29) rfl)) F_parsedBrackets E_a (Or.inr ⟨(hw _ (List.mem_of_getElem? (i := 30) rfl)), rfl, rfl⟩) (hw _ (List.mem_of_getElem? (i := 10) rfl)) (ty := .int) (by decide) rfl rfl lo (n := 25) rfl ?_
  intro T h7 P W8
  replace E_a := Exa.wr W8 E_a
  replace F_status := Fld.other W8 F_status (Or.inr (slot_ne (Or.inr (hw _ (List.mem_of_getElem? (i := 24) rfl))) (Or.inr (hw _ (List.mem_of_getElem? (i := 30) rfl))) (by decide) (t := (.object "com/example/spanwise/spanwise/trees/SentenceScore$Status")) (t' := .int) (by decide) (by decide)))
  replace F_length := Fld.other W8 F_length (Or.inr (slot_ne (Or.inr (hw _ (List.mem_of_getElem? (i := 26) rfl))) (Or.inr (hw _ (List.mem_of_getElem? (i := 30) rfl))) (by decide) (t := .int) (t' := .int) (by decide) (by decide)))
  replace F_goldBrackets := Fld.other W8 F_goldBrackets (Or.inr (slot_ne (Or.inr (hw _ (List.mem_of_getElem? (i := 28) rfl))) (Or.inr (hw _ (List.mem_of_getElem? (i := 30) rfl))) (by decide) (t := .int) (t' := .int) (by decide) (by decide)))
  replace F_matchedBrackets := Fld.other W8 F_matchedBrackets (Or.inr (slot_ne (Or.inr (hw _ (List.mem_of_getElem? (i := 32) rfl))) (Or.inr (hw _ (List.mem_of_getElem? (i := 30) rfl))) (by decide) (t := .int) (t' := .int) (by decide) (by decide)))
  replace F_crossingBrackets := Fld.other W8 F_crossingBrackets (Or.inr (slot_ne (Or.inr (hw _ (List.mem_of_getElem? (i := 34) rfl))) (Or.inr (hw _ (List.mem_of_getElem? (i := 30) rfl))) (by decide) (t := .int) (t' := .int) (by decide) (by decide)))
  replace F_words := Fld.other W8 F_words (Or.inr (slot_ne (Or.inr (hw _ (List.mem_of_getElem? (i := 36) rfl))) (Or.inr (hw _ (List.mem_of_getElem? (i := 30) rfl))) (by decide) (t := .int) (t' := .int) (by decide) (by decide)))
  replace F_correctTags := Fld.other W8 F_correctTags (Or.inr (slot_ne (Or.inr (hw _ (List.mem_of_getElem? (i := 38) rfl))) (Or.inr (hw _ (List.mem_of_getElem? (i := 30) rfl))) (by decide) (t := .int) (t' := .int) (by decide) (by decide)))
  replace F_mismatch := Fld.other W8 F_mismatch (Or.inr (slot_ne (Or.inr (hw _ (List.mem_of_getElem? (i := 40) rfl))) (Or.inr (hw _ (List.mem_of_getElem? (i := 30) rfl))) (by decide) (t := (.object "com/example/spanwise/spanwise/trees/SentenceScore$Mismatch")) (t' := .int) (by decide) (by decide)))
  replace F_parsedBrackets := Fld.same W8 F_parsedBrackets
  have K := Keep.wr K W8 (Or.inl (by simp))
  refine aloadN P d2_25 rfl rfl (n := 26) rfl ?_
  refine iload P d2_26 rfl (n := 28) rfl ?_
  refine putF P d2_28 (hw _ (List.mem_of_getElem? (i := 31) rfl)) F_matchedBrackets E_a (Or.inr ⟨(hw _ (List.mem_of_getElem? (i := 32) rfl)), rfl, rfl⟩) (hw _ (List.mem_of_getElem? (i := 10) rfl)) (ty := .int) (by decide) rfl rfl lo (n := 31) rfl ?_
  intro T h9 P W10
  replace E_a := Exa.wr W10 E_a
  replace F_status := Fld.other W10 F_status (Or.inr (slot_ne (Or.inr (hw _ (List.mem_of_getElem? (i := 24) rfl))) (Or.inr (hw _ (List.mem_of_getElem? (i := 32) rfl))) (by decide) (t := (.object "com/example/spanwise/spanwise/trees/SentenceScore$Status")) (t' := .int) (by decide) (by decide)))
  replace F_length := Fld.other W10 F_length (Or.inr (slot_ne (Or.inr (hw _ (List.mem_of_getElem? (i := 26) rfl))) (Or.inr (hw _ (List.mem_of_getElem? (i := 32) rfl))) (by decide) (t := .int) (t' := .int) (by decide) (by decide)))
  replace F_goldBrackets := Fld.other W10 F_goldBrackets (Or.inr (slot_ne (Or.inr (hw _ (List.mem_of_getElem? (i := 28) rfl))) (Or.inr (hw _ (List.mem_of_getElem? (i := 32) rfl))) (by decide) (t := .int) (t' := .int) (by decide) (by decide)))
  replace F_parsedBrackets := Fld.other W10 F_parsedBrackets (Or.inr (slot_ne (Or.inr (hw _ (List.mem_of_getElem? (i := 30) rfl))) (Or.inr (hw _ (List.mem_of_getElem? (i := 32) rfl))) (by decide) (t := .int) (t' := .int) (by decide) (by decide)))
  replace F_crossingBrackets := Fld.other W10 F_crossingBrackets (Or.inr (slot_ne (Or.inr (hw _ (List.mem_of_getElem? (i := 34) rfl))) (Or.inr (hw _ (List.mem_of_getElem? (i := 32) rfl))) (by decide) (t := .int) (t' := .int) (by decide) (by decide)))
  replace F_words := Fld.other W10 F_words (Or.inr (slot_ne (Or.inr (hw _ (List.mem_of_getElem? (i := 36) rfl))) (Or.inr (hw _ (List.mem_of_getElem? (i := 32) rfl))) (by decide) (t := .int) (t' := .int) (by decide) (by decide)))
  replace F_correctTags := Fld.other W10 F_correctTags (Or.inr (slot_ne (Or.inr (hw _ (List.mem_of_getElem? (i := 38) rfl))) (Or.inr (hw _ (List.mem_of_getElem? (i := 32) rfl))) (by decide) (t := .int) (t' := .int) (by decide) (by decide)))
  replace F_mismatch := Fld.other W10 F_mismatch (Or.inr (slot_ne (Or.inr (hw _ (List.mem_of_getElem? (i := 40) rfl))) (Or.inr (hw _ (List.mem_of_getElem? (i := 32) rfl))) (by decide) (t := (.object "com/example/spanwise/spanwise/trees/SentenceScore$Mismatch")) (t' := .int) (by decide) (by decide)))
  replace F_matchedBrackets := Fld.same W10 F_matchedBrackets
  have K := Keep.wr K W10 (Or.inl (by simp))
  refine aloadN P d2_31 rfl rfl (n := 32) rfl ?_
  refine iload P d2_32 rfl (n := 34) rfl ?_
  refine putF P d2_34 (hw _ (List.mem_of_getElem? (i := 33) rfl)) F_crossingBrackets E_a (Or.inr ⟨(hw _ (List.mem_of_getElem? (i := 34) rfl)), rfl, rfl⟩) (hw _ (List.mem_of_getElem? (i := 10) rfl)) (ty := .int) (by decide) rfl rfl lo (n := 37) rfl ?_
  intro T h11 P W12
  replace E_a := Exa.wr W12 E_a
  replace F_status := Fld.other W12 F_status (Or.inr (slot_ne (Or.inr (hw _ (List.mem_of_getElem? (i := 24) rfl))) (Or.inr (hw _ (List.mem_of_getElem? (i := 34) rfl))) (by decide) (t := (.object "com/example/spanwise/spanwise/trees/SentenceScore$Status")) (t' := .int) (by decide) (by decide)))
  replace F_length := Fld.other W12 F_length (Or.inr (slot_ne (Or.inr (hw _ (List.mem_of_getElem? (i := 26) rfl))) (Or.inr (hw _ (List.mem_of_getElem? (i := 34) rfl))) (by decide) (t := .int) (t' := .int) (by decide) (by decide)))
  replace F_goldBrackets := Fld.other W12 F_goldBrackets (Or.inr (slot_ne (Or.inr (hw _ (List.mem_of_getElem? (i := 28) rfl))) (Or.inr (hw _ (List.mem_of_getElem? (i := 34) rfl))) (by decide) (t := .int) (t' := .int) (by decide) (by decide)))
  replace F_parsedBrackets := Fld.other W12 F_parsedBrackets (Or.inr (slot_ne (Or.inr (hw _ (List.mem_of_getElem? (i := 30) rfl))) (Or.inr (hw _ (List.mem_of_getElem? (i := 34) rfl))) (by decide) (t := .int) (t' := .int) (by decide) (by decide)))
  replace F_matchedBrackets := Fld.other W12 F_matchedBrackets (Or.inr (slot_ne (Or.inr (hw _ (List.mem_of_getElem? (i := 32) rfl))) (Or.inr (hw _ (List.mem_of_getElem? (i := 34) rfl))) (by decide) (t := .int) (t' := .int) (by decide) (by decide)))
  replace F_words := Fld.other W12 F_words (Or.inr (slot_ne (Or.inr (hw _ (List.mem_of_getElem? (i := 36) rfl))) (Or.inr (hw _ (List.mem_of_getElem? (i := 34) rfl))) (by decide) (t := .int) (t' := .int) (by decide) (by decide)))
  replace F_correctTags := Fld.other W12 F_correctTags (Or.inr (slot_ne (Or.inr (hw _ (List.mem_of_getElem? (i := 38) rfl))) (Or.inr (hw _ (List.mem_of_getElem? (i := 34) rfl))) (by decide) (t := .int) (t' := .int) (by decide) (by decide)))
  replace F_mismatch := Fld.other W12 F_mismatch (Or.inr (slot_ne (Or.inr (hw _ (List.mem_of_getElem? (i := 40) rfl))) (Or.inr (hw _ (List.mem_of_getElem? (i := 34) rfl))) (by decide) (t := (.object "com/example/spanwise/spanwise/trees/SentenceScore$Mismatch")) (t' := .int) (by decide) (by decide)))
  replace F_crossingBrackets := Fld.same W12 F_crossingBrackets
  have K := Keep.wr K W12 (Or.inl (by simp))
  refine aloadN P d2_37 rfl rfl (n := 38) rfl ?_
  refine iload P d2_38 rfl (n := 40) rfl ?_
  refine putF P d2_40 (hw _ (List.mem_of_getElem? (i := 35) rfl)) F_words E_a (Or.inr ⟨(hw _ (List.mem_of_getElem? (i := 36) rfl)), rfl, rfl⟩) (hw _ (List.mem_of_getElem? (i := 10) rfl)) (ty := .int) (by decide) rfl rfl lo (n := 43) rfl ?_
  intro T h13 P W14
  replace E_a := Exa.wr W14 E_a
  replace F_status := Fld.other W14 F_status (Or.inr (slot_ne (Or.inr (hw _ (List.mem_of_getElem? (i := 24) rfl))) (Or.inr (hw _ (List.mem_of_getElem? (i := 36) rfl))) (by decide) (t := (.object "com/example/spanwise/spanwise/trees/SentenceScore$Status")) (t' := .int) (by decide) (by decide)))
  replace F_length := Fld.other W14 F_length (Or.inr (slot_ne (Or.inr (hw _ (List.mem_of_getElem? (i := 26) rfl))) (Or.inr (hw _ (List.mem_of_getElem? (i := 36) rfl))) (by decide) (t := .int) (t' := .int) (by decide) (by decide)))
  replace F_goldBrackets := Fld.other W14 F_goldBrackets (Or.inr (slot_ne (Or.inr (hw _ (List.mem_of_getElem? (i := 28) rfl))) (Or.inr (hw _ (List.mem_of_getElem? (i := 36) rfl))) (by decide) (t := .int) (t' := .int) (by decide) (by decide)))
  replace F_parsedBrackets := Fld.other W14 F_parsedBrackets (Or.inr (slot_ne (Or.inr (hw _ (List.mem_of_getElem? (i := 30) rfl))) (Or.inr (hw _ (List.mem_of_getElem? (i := 36) rfl))) (by decide) (t := .int) (t' := .int) (by decide) (by decide)))
  replace F_matchedBrackets := Fld.other W14 F_matchedBrackets (Or.inr (slot_ne (Or.inr (hw _ (List.mem_of_getElem? (i := 32) rfl))) (Or.inr (hw _ (List.mem_of_getElem? (i := 36) rfl))) (by decide) (t := .int) (t' := .int) (by decide) (by decide)))
  replace F_crossingBrackets := Fld.other W14 F_crossingBrackets (Or.inr (slot_ne (Or.inr (hw _ (List.mem_of_getElem? (i := 34) rfl))) (Or.inr (hw _ (List.mem_of_getElem? (i := 36) rfl))) (by decide) (t := .int) (t' := .int) (by decide) (by decide)))
  replace F_correctTags := Fld.other W14 F_correctTags (Or.inr (slot_ne (Or.inr (hw _ (List.mem_of_getElem? (i := 38) rfl))) (Or.inr (hw _ (List.mem_of_getElem? (i := 36) rfl))) (by decide) (t := .int) (t' := .int) (by decide) (by decide)))
  replace F_mismatch := Fld.other W14 F_mismatch (Or.inr (slot_ne (Or.inr (hw _ (List.mem_of_getElem? (i := 40) rfl))) (Or.inr (hw _ (List.mem_of_getElem? (i := 36) rfl))) (by decide) (t := (.object "com/example/spanwise/spanwise/trees/SentenceScore$Mismatch")) (t' := .int) (by decide) (by decide)))
  replace F_words := Fld.same W14 F_words
  have K := Keep.wr K W14 (Or.inl (by simp))
  refine aloadN P d2_43 rfl rfl (n := 44) rfl ?_
  refine iload P d2_44 rfl (n := 46) rfl ?_
  refine putF P d2_46 (hw _ (List.mem_of_getElem? (i := 37) rfl)) F_correctTags E_a (Or.inr ⟨(hw _ (List.mem_of_getElem? (i := 38) rfl)), rfl, rfl⟩) (hw _ (List.mem_of_getElem? (i := 10) rfl)) (ty := .int) (by decide) rfl rfl lo (n := 49) rfl ?_
  intro T h15 P W16
  replace E_a := Exa.wr W16 E_a
  replace F_status := Fld.other W16 F_status (Or.inr (slot_ne (Or.inr (hw _ (List.mem_of_getElem? (i := 24) rfl))) (Or.inr (hw _ (List.mem_of_getElem? (i := 38) rfl))) (by decide) (t := (.object "com/example/spanwise/spanwise/trees/SentenceScore$Status")) (t' := .int) (by decide) (by decide)))
  replace F_length := Fld.other W16 F_length (Or.inr (slot_ne (Or.inr (hw _ (List.mem_of_getElem? (i := 26) rfl))) (Or.inr (hw _ (List.mem_of_getElem? (i := 38) rfl))) (by decide) (t := .int) (t' := .int) (by decide) (by decide)))
  replace F_goldBrackets := Fld.other W16 F_goldBrackets (Or.inr (slot_ne (Or.inr (hw _ (List.mem_of_getElem? (i := 28) rfl))) (Or.inr (hw _ (List.mem_of_getElem? (i := 38) rfl))) (by decide) (t := .int) (t' := .int) (by decide) (by decide)))
  replace F_parsedBrackets := Fld.other W16 F_parsedBrackets (Or.inr (slot_ne (Or.inr (hw _ (List.mem_of_getElem? (i := 30) rfl))) (Or.inr (hw _ (List.mem_of_getElem? (i := 38) rfl))) (by decide) (t := .int) (t' := .int) (by decide) (by decide)))
  replace F_matchedBrackets := Fld.other W16 F_matchedBrackets (Or.inr (slot_ne (Or.inr (hw _ (List.mem_of_getElem? (i := 32) rfl))) (Or.inr (hw _ (List.mem_of_getElem? (i := 38) rfl))) (by decide) (t := .int) (t' := .int) (by decide) (by decide)))
  replace F_crossingBrackets := Fld.other W16 F_crossingBrackets (Or.inr (slot_ne (Or.inr (hw _ (List.mem_of_getElem? (i := 34) rfl))) (Or.inr (hw _ (List.mem_of_getElem? (i := 38) rfl))) (by decide) (t := .int) (t' := .int) (by decide) (by decide)))
  replace F_words := Fld.other W16 F_words (Or.inr (slot_ne (Or.inr (hw _ (List.mem_of_getElem? (i := 36) rfl))) (Or.inr (hw _ (List.mem_of_getElem? (i := 38) rfl))) (by decide) (t := .int) (t' := .int) (by decide) (by decide)))
  replace F_mismatch := Fld.other W16 F_mismatch (Or.inr (slot_ne (Or.inr (hw _ (List.mem_of_getElem? (i := 40) rfl))) (Or.inr (hw _ (List.mem_of_getElem? (i := 38) rfl))) (by decide) (t := (.object "com/example/spanwise/spanwise/trees/SentenceScore$Mismatch")) (t' := .int) (by decide) (by decide)))
  replace F_correctTags := Fld.same W16 F_correctTags
  have K := Keep.wr K W16 (Or.inl (by simp))
  refine aloadN P d2_49 rfl rfl (n := 50) rfl ?_
  refine aload P d2_50 rfl rfl (n := 52) rfl ?_
  refine putF P d2_52 (hw _ (List.mem_of_getElem? (i := 39) rfl)) F_mismatch E_a (Or.inr ⟨(hw _ (List.mem_of_getElem? (i := 40) rfl)), rfl, rfl⟩) (hw _ (List.mem_of_getElem? (i := 10) rfl)) (ty := (.object "com/example/spanwise/spanwise/trees/SentenceScore$Mismatch")) (by decide) rfl rfl lo (n := 55) rfl ?_
  intro T h17 P W18
  replace E_a := Exa.wr W18 E_a
  replace F_status := Fld.other W18 F_status (Or.inr (slot_ne (Or.inr (hw _ (List.mem_of_getElem? (i := 24) rfl))) (Or.inr (hw _ (List.mem_of_getElem? (i := 40) rfl))) (by decide) (t := (.object "com/example/spanwise/spanwise/trees/SentenceScore$Status")) (t' := (.object "com/example/spanwise/spanwise/trees/SentenceScore$Mismatch")) (by decide) (by decide)))
  replace F_length := Fld.other W18 F_length (Or.inr (slot_ne (Or.inr (hw _ (List.mem_of_getElem? (i := 26) rfl))) (Or.inr (hw _ (List.mem_of_getElem? (i := 40) rfl))) (by decide) (t := .int) (t' := (.object "com/example/spanwise/spanwise/trees/SentenceScore$Mismatch")) (by decide) (by decide)))
  replace F_goldBrackets := Fld.other W18 F_goldBrackets (Or.inr (slot_ne (Or.inr (hw _ (List.mem_of_getElem? (i := 28) rfl))) (Or.inr (hw _ (List.mem_of_getElem? (i := 40) rfl))) (by decide) (t := .int) (t' := (.object "com/example/spanwise/spanwise/trees/SentenceScore$Mismatch")) (by decide) (by decide)))
  replace F_parsedBrackets := Fld.other W18 F_parsedBrackets (Or.inr (slot_ne (Or.inr (hw _ (List.mem_of_getElem? (i := 30) rfl))) (Or.inr (hw _ (List.mem_of_getElem? (i := 40) rfl))) (by decide) (t := .int) (t' := (.object "com/example/spanwise/spanwise/trees/SentenceScore$Mismatch")) (by decide) (by decide)))
  replace F_matchedBrackets := Fld.other W18 F_matchedBrackets (Or.inr (slot_ne (Or.inr (hw _ (List.mem_of_getElem? (i := 32) rfl))) (Or.inr (hw _ (List.mem_of_getElem? (i := 40) rfl))) (by decide) (t := .int) (t' := (.object "com/example/spanwise/spanwise/trees/SentenceScore$Mismatch")) (by decide) (by decide)))
  replace F_crossingBrackets := Fld.other W18 F_crossingBrackets (Or.inr (slot_ne (Or.inr (hw _ (List.mem_of_getElem? (i := 34) rfl))) (Or.inr (hw _ (List.mem_of_getElem? (i := 40) rfl))) (by decide) (t := .int) (t' := (.object "com/example/spanwise/spanwise/trees/SentenceScore$Mismatch")) (by decide) (by decide)))
  replace F_words := Fld.other W18 F_words (Or.inr (slot_ne (Or.inr (hw _ (List.mem_of_getElem? (i := 36) rfl))) (Or.inr (hw _ (List.mem_of_getElem? (i := 40) rfl))) (by decide) (t := .int) (t' := (.object "com/example/spanwise/spanwise/trees/SentenceScore$Mismatch")) (by decide) (by decide)))
  replace F_correctTags := Fld.other W18 F_correctTags (Or.inr (slot_ne (Or.inr (hw _ (List.mem_of_getElem? (i := 38) rfl))) (Or.inr (hw _ (List.mem_of_getElem? (i := 40) rfl))) (by decide) (t := .int) (t' := (.object "com/example/spanwise/spanwise/trees/SentenceScore$Mismatch")) (by decide) (by decide)))
  replace F_mismatch := Fld.same W18 F_mismatch
  have K := Keep.wr K W18 (Or.inl (by simp))
  refine retV P d2_55 (by decide) (by decide) ?_
  exact ⟨rfl, K, F_status, F_goldBrackets, F_parsedBrackets, F_matchedBrackets, F_crossingBrackets, F_words, F_correctTags⟩
theorem d7_0 : decode prog_95_method_6_code 0 = .ok (.aload_n 0, 1) := by decide +kernel
theorem d7_1 : decode prog_95_method_6_code 1 = .ok (.getfield 7, 3) := by decide +kernel
theorem d7_4 : decode prog_95_method_6_code 4 = .ok (.areturn, 1) := by decide +kernel
theorem ef_7 (m : MethodId) (a : Addr) : entryFrame m #[(.ref a)] 1 = mkF m 0 #[.val (.ref a)] [] := by first | (simp [entryFrame, mkF, argsToLocals, Value.category]; done) | rfl
abbrev rm_c_status : Room := { frames := 0, cells := 0, slots := 0, locals := 0 }
set_option maxRecDepth 65536 in
set_option maxHeartbeats 40000000 in
theorem c_status (l : Launch) (Z : State) (a0 : Array Value) (hw : ∀ d ∈ tables_1, d.before a0 Z = true) (a : Addr) (w : Addr) (h0 : Heap) (n0 : Nat) (low : n0 ≤ h0.size) (F_g : Fld Z h0 a "com/example/spanwise/spanwise/trees/SentenceScore" "status" "Lcom/example/spanwise/spanwise/trees/SentenceScore$Status;" (.ref w)) :
    Meth l Z (⟨"com/example/spanwise/spanwise/trees/SentenceScore", "status", "()Lcom/example/spanwise/spanwise/trees/SentenceScore$Status;"⟩ : MethodName) prog_95_method_6_code 1 (some (.object "com/example/spanwise/spanwise/trees/SentenceScore$Status")) rm_c_status #[(.ref a)] h0 n0 (Ret (.ref w) h0) := by
  refine Meth.of (plainFor_of_name pn_2) low ?_
  intro p e s m args below meth c T P
  refine Ends.cast (ef_7 m a) ?_
  refine aloadN P d7_0 rfl rfl (n := 1) rfl ?_
  refine getF P d7_1 (hw _ (List.mem_of_getElem? (i := 23) rfl)) F_g (n := 4) rfl ?_
  intro T P
  refine retR P d7_4 rfl (by decide) (by decide) ?_
  exact Ret.ofA rfl
theorem d8_0 : decode prog_95_method_8_code 0 = .ok (.aload_n 0, 1) := by decide +kernel
theorem d8_1 : decode prog_95_method_8_code 1 = .ok (.getfield 17, 3) := by decide +kernel
theorem d8_4 : decode prog_95_method_8_code 4 = .ok (.ireturn, 1) := by decide +kernel
theorem ef_8 (m : MethodId) (a : Addr) : entryFrame m #[(.ref a)] 1 = mkF m 0 #[.val (.ref a)] [] := by first | (simp [entryFrame, mkF, argsToLocals, Value.category]; done) | rfl
abbrev rm_c_goldBrackets : Room := { frames := 0, cells := 0, slots := 0, locals := 0 }
set_option maxRecDepth 65536 in
set_option maxHeartbeats 40000000 in
theorem c_goldBrackets (l : Launch) (Z : State) (a0 : Array Value) (hw : ∀ d ∈ tables_1, d.before a0 Z = true) (a : Addr) (w : Int32) (h0 : Heap) (n0 : Nat) (low : n0 ≤ h0.size) (F_g : Fld Z h0 a "com/example/spanwise/spanwise/trees/SentenceScore" "goldBrackets" "I" (.int w)) :
    Meth l Z (⟨"com/example/spanwise/spanwise/trees/SentenceScore", "goldBrackets", "()I"⟩ : MethodName) prog_95_method_8_code 1 (some .int) rm_c_goldBrackets #[(.ref a)] h0 n0 (Ret (.int w) h0) := by
  refine Meth.of (plainFor_of_name pn_2) low ?_
  intro p e s m args below meth c T P
  refine Ends.cast (ef_8 m a) ?_
  refine aloadN P d8_0 rfl rfl (n := 1) rfl ?_
  refine getF P d8_1 (hw _ (List.mem_of_getElem? (i := 27) rfl)) F_g (n := 4) rfl ?_
  intro T P
  refine retI P d8_4 (by decide) (by decide) ?_
  exact Ret.ofA rfl
theorem d9_0 : decode prog_95_method_9_code 0 = .ok (.aload_n 0, 1) := by decide +kernel
theorem d9_1 : decode prog_95_method_9_code 1 = .ok (.getfield 20, 3) := by decide +kernel
theorem d9_4 : decode prog_95_method_9_code 4 = .ok (.ireturn, 1) := by decide +kernel
theorem ef_9 (m : MethodId) (a : Addr) : entryFrame m #[(.ref a)] 1 = mkF m 0 #[.val (.ref a)] [] := by first | (simp [entryFrame, mkF, argsToLocals, Value.category]; done) | rfl
abbrev rm_c_parsedBrackets : Room := { frames := 0, cells := 0, slots := 0, locals := 0 }
set_option maxRecDepth 65536 in
set_option maxHeartbeats 40000000 in
theorem c_parsedBrackets (l : Launch) (Z : State) (a0 : Array Value) (hw : ∀ d ∈ tables_1, d.before a0 Z = true) (a : Addr) (w : Int32) (h0 : Heap) (n0 : Nat) (low : n0 ≤ h0.size) (F_g : Fld Z h0 a "com/example/spanwise/spanwise/trees/SentenceScore" "parsedBrackets" "I" (.int w)) :
    Meth l Z (⟨"com/example/spanwise/spanwise/trees/SentenceScore", "parsedBrackets", "()I"⟩ : MethodName) prog_95_method_9_code 1 (some .int) rm_c_parsedBrackets #[(.ref a)] h0 n0 (Ret (.int w) h0) := by
  refine Meth.of (plainFor_of_name pn_2) low ?_
  intro p e s m args below meth c T P
  refine Ends.cast (ef_9 m a) ?_
  refine aloadN P d9_0 rfl rfl (n := 1) rfl ?_
  refine getF P d9_1 (hw _ (List.mem_of_getElem? (i := 29) rfl)) F_g (n := 4) rfl ?_
  intro T P
  refine retI P d9_4 (by decide) (by decide) ?_
  exact Ret.ofA rfl
theorem d10_0 : decode prog_95_method_10_code 0 = .ok (.aload_n 0, 1) := by decide +kernel
theorem d10_1 : decode prog_95_method_10_code 1 = .ok (.getfield 23, 3) := by decide +kernel
theorem d10_4 : decode prog_95_method_10_code 4 = .ok (.ireturn, 1) := by decide +kernel
theorem ef_10 (m : MethodId) (a : Addr) : entryFrame m #[(.ref a)] 1 = mkF m 0 #[.val (.ref a)] [] := by first | (simp [entryFrame, mkF, argsToLocals, Value.category]; done) | rfl
abbrev rm_c_matchedBrackets : Room := { frames := 0, cells := 0, slots := 0, locals := 0 }
set_option maxRecDepth 65536 in
set_option maxHeartbeats 40000000 in
theorem c_matchedBrackets (l : Launch) (Z : State) (a0 : Array Value) (hw : ∀ d ∈ tables_1, d.before a0 Z = true) (a : Addr) (w : Int32) (h0 : Heap) (n0 : Nat) (low : n0 ≤ h0.size) (F_g : Fld Z h0 a "com/example/spanwise/spanwise/trees/SentenceScore" "matchedBrackets" "I" (.int w)) :
    Meth l Z (⟨"com/example/spanwise/spanwise/trees/SentenceScore", "matchedBrackets", "()I"⟩ : MethodName) prog_95_method_10_code 1 (some .int) rm_c_matchedBrackets #[(.ref a)] h0 n0 (Ret (.int w) h0) := by
  refine Meth.of (plainFor_of_name pn_2) low ?_
  intro p e s m args below meth c T P
  refine Ends.cast (ef_10 m a) ?_
  refine aloadN P d10_0 rfl rfl (n := 1) rfl ?_
  refine getF P d10_1 (hw _ (List.mem_of_getElem? (i := 31) rfl)) F_g (n := 4) rfl ?_
  intro T P
  refine retI P d10_4 (by decide) (by decide) ?_
  exact Ret.ofA rfl
theorem d11_0 : decode prog_95_method_11_code 0 = .ok (.aload_n 0, 1) := by decide +kernel
theorem d11_1 : decode prog_95_method_11_code 1 = .ok (.getfield 26, 3) := by decide +kernel
theorem d11_4 : decode prog_95_method_11_code 4 = .ok (.ireturn, 1) := by decide +kernel
theorem ef_11 (m : MethodId) (a : Addr) : entryFrame m #[(.ref a)] 1 = mkF m 0 #[.val (.ref a)] [] := by first | (simp [entryFrame, mkF, argsToLocals, Value.category]; done) | rfl
abbrev rm_c_crossingBrackets : Room := { frames := 0, cells := 0, slots := 0, locals := 0 }
set_option maxRecDepth 65536 in
set_option maxHeartbeats 40000000 in
theorem c_crossingBrackets (l : Launch) (Z : State) (a0 : Array Value) (hw : ∀ d ∈ tables_1, d.before a0 Z = true) (a : Addr) (w : Int32) (h0 : Heap) (n0 : Nat) (low : n0 ≤ h0.size) (F_g : Fld Z h0 a "com/example/spanwise/spanwise/trees/SentenceScore" "crossingBrackets" "I" (.int w)) :
    Meth l Z (⟨"com/example/spanwise/spanwise/trees/SentenceScore", "crossingBrackets", "()I"⟩ : MethodName) prog_95_method_11_code 1 (some .int) rm_c_crossingBrackets #[(.ref a)] h0 n0 (Ret (.int w) h0) := by
  refine Meth.of (plainFor_of_name pn_2) low ?_
  intro p e s m args below meth c T P
  refine Ends.cast (ef_11 m a) ?_
  refine aloadN P d11_0 rfl rfl (n := 1) rfl ?_
  refine getF P d11_1 (hw _ (List.mem_of_getElem? (i := 33) rfl)) F_g (n := 4) rfl ?_
  intro T P
  refine retI P d11_4 (by decide) (by decide) ?_
  exact Ret.ofA rfl
theorem d13_0 : decode prog_95_method_12_code 0 = .ok (.aload_n 0, 1) := by decide +kernel
theorem d13_1 : decode prog_95_method_12_code 1 = .ok (.getfield 29, 3) := by decide +kernel
theorem d13_4 : decode prog_95_method_12_code 4 = .ok (.ireturn, 1) := by decide +kernel
theorem ef_13 (m : MethodId) (a : Addr) : entryFrame m #[(.ref a)] 1 = mkF m 0 #[.val (.ref a)] [] := by first | (simp [entryFrame, mkF, argsToLocals, Value.category]; done) | rfl
abbrev rm_c_words : Room := { frames := 0, cells := 0, slots := 0, locals := 0 }
set_option maxRecDepth 65536 in
set_option maxHeartbeats 40000000 in
theorem c_words (l : Launch) (Z : State) (a0 : Array Value) (hw : ∀ d ∈ tables_1, d.before a0 Z = true) (a : Addr) (w : Int32) (h0 : Heap) (n0 : Nat) (low : n0 ≤ h0.size) (F_g : Fld Z h0 a "com/example/spanwise/spanwise/trees/SentenceScore" "words" "I" (.int w)) :
    Meth l Z (⟨"com/example/spanwise/spanwise/trees/SentenceScore", "words", "()I"⟩ : MethodName) prog_95_method_12_code 1 (some .int) rm_c_words #[(.ref a)] h0 n0 (Ret (.int w) h0) := by
  refine Meth.of (plainFor_of_name pn_2) low ?_
  intro p e s m args below meth c T P
  refine Ends.cast (ef_13 m a) ?_
  refine aloadN P d13_0 rfl rfl (n := 1) rfl ?_
  refine getF P d13_1 (hw _ (List.mem_of_getElem? (i := 35) rfl)) F_g (n := 4) rfl ?_
  intro T P
  refine retI P d13_4 (by decide) (by decide) ?_
  exact Ret.ofA rfl
theorem d14_0 : decode prog_95_method_13_code 0 = .ok (.aload_n 0, 1) := by decide +kernel
theorem d14_1 : decode prog_95_method_13_code 1 = .ok (.getfield 32, 3) := by decide +kernel
theorem d14_4 : decode prog_95_method_13_code 4 = .ok (.ireturn, 1) := by decide +kernel
theorem ef_14 (m : MethodId) (a : Addr) : entryFrame m #[(.ref a)] 1 = mkF m 0 #[.val (.ref a)] [] := by first | (simp [entryFrame, mkF, argsToLocals, Value.category]; done) | rfl
abbrev rm_c_correctTags : Room := { frames := 0, cells := 0, slots := 0, locals := 0 }
set_option maxRecDepth 65536 in
set_option maxHeartbeats 40000000 in
theorem c_correctTags (l : Launch) (Z : State) (a0 : Array Value) (hw : ∀ d ∈ tables_1, d.before a0 Z = true) (a : Addr) (w : Int32) (h0 : Heap) (n0 : Nat) (low : n0 ≤ h0.size) (F_g : Fld Z h0 a "com/example/spanwise/spanwise/trees/SentenceScore" "correctTags" "I" (.int w)) :
    Meth l Z (⟨"com/example/spanwise/spanwise/trees/SentenceScore", "correctTags", "()I"⟩ : MethodName) prog_95_method_13_code 1 (some .int) rm_c_correctTags #[(.ref a)] h0 n0 (Ret (.int w) h0) := by
  refine Meth.of (plainFor_of_name pn_2) low ?_
  intro p e s m args below meth c T P
  refine Ends.cast (ef_14 m a) ?_
  refine aloadN P d14_0 rfl rfl (n := 1) rfl ?_
  refine getF P d14_1 (hw _ (List.mem_of_getElem? (i := 37) rfl)) F_g (n := 4) rfl ?_
  intro T P
  refine retI P d14_4 (by decide) (by decide) ?_
  exact Ret.ofA rfl
theorem d12_0 : decode prog_95_method_2_code 0 = .ok (.aload_n 0, 1) := by decide +kernel
theorem d12_1 : decode prog_95_method_2_code 1 = .ok (.getfield 7, 3) := by decide +kernel
theorem d12_4 : decode prog_95_method_2_code 4 = .ok (.getstatic 39, 3) := by decide +kernel
theorem d12_7 : decode prog_95_method_2_code 7 = .ok (.if_acmp .ne 29, 3) := by decide +kernel
theorem d12_10 : decode prog_95_method_2_code 10 = .ok (.aload_n 0, 1) := by decide +kernel
theorem d12_11 : decode prog_95_method_2_code 11 = .ok (.getfield 23, 3) := by decide +kernel
theorem d12_14 : decode prog_95_method_2_code 14 = .ok (.aload_n 0, 1) := by decide +kernel
theorem d12_15 : decode prog_95_method_2_code 15 = .ok (.getfield 17, 3) := by decide +kernel
theorem d12_18 : decode prog_95_method_2_code 18 = .ok (.if_icmp .ne 18, 3) := by decide +kernel
theorem d12_21 : decode prog_95_method_2_code 21 = .ok (.aload_n 0, 1) := by decide +kernel
theorem d12_22 : decode prog_95_method_2_code 22 = .ok (.getfield 23, 3) := by decide +kernel
theorem d12_25 : decode prog_95_method_2_code 25 = .ok (.aload_n 0, 1) := by decide +kernel
theorem d12_26 : decode prog_95_method_2_code 26 = .ok (.getfield 20, 3) := by decide +kernel
theorem d12_29 : decode prog_95_method_2_code 29 = .ok (.if_icmp .ne 7, 3) := by decide +kernel
theorem d12_32 : decode prog_95_method_2_code 32 = .ok (.iconst 1, 1) := by decide +kernel
theorem d12_33 : decode prog_95_method_2_code 33 = .ok (.goto 4, 3) := by decide +kernel
theorem d12_36 : decode prog_95_method_2_code 36 = .ok (.iconst 0, 1) := by decide +kernel
theorem d12_37 : decode prog_95_method_2_code 37 = .ok (.ireturn, 1) := by decide +kernel
theorem ef_12 (m : MethodId) (a : Addr) : entryFrame m #[(.ref a)] 1 = mkF m 0 #[.val (.ref a)] [] := by first | (simp [entryFrame, mkF, argsToLocals, Value.category]; done) | rfl
abbrev rm_c_complete : Room := { frames := 0, cells := 0, slots := 0, locals := 0 }
set_option maxRecDepth 65536 in
set_option maxHeartbeats 40000000 in
theorem c_complete (l : Launch) (Z : State) (a0 : Array Value) (hw : ∀ d ∈ tables_1, d.before a0 Z = true) (a : Addr) (us : Addr) (u2 u3 u4 : Int32) (xv xe xk : Addr) (h0 : Heap) (n0 : Nat) (low : n0 ≤ h0.size) (F_status : Fld Z h0 a "com/example/spanwise/spanwise/trees/SentenceScore" "status" "Lcom/example/spanwise/spanwise/trees/SentenceScore$Status;" (.ref us)) (F_goldBrackets : Fld Z h0 a "com/example/spanwise/spanwise/trees/SentenceScore" "goldBrackets" "I" (.int u2)) (F_parsedBrackets : Fld Z h0 a "com/example/spanwise/spanwise/trees/SentenceScore" "parsedBrackets" "I" (.int u3)) (F_matchedBrackets : Fld Z h0 a "com/example/spanwise/spanwise/trees/SentenceScore" "matchedBrackets" "I" (.int u4)) (S_v : Sta Z h0 "com/example/spanwise/spanwise/trees/SentenceScore$Status" "VALID" "Lcom/example/spanwise/spanwise/trees/SentenceScore$Status;" (.ref xv)) (S_e : Sta Z h0 "com/example/spanwise/spanwise/trees/SentenceScore$Status" "ERROR" "Lcom/example/spanwise/spanwise/trees/SentenceScore$Status;" (.ref xe)) (S_k : Sta Z h0 "com/example/spanwise/spanwise/trees/SentenceScore$Status" "SKIPPED" "Lcom/example/spanwise/spanwise/trees/SentenceScore$Status;" (.ref xk)) :
    Meth l Z (⟨"com/example/spanwise/spanwise/trees/SentenceScore", "isCompleteMatch", "()Z"⟩ : MethodName) prog_95_method_2_code 1 (some .boolean) rm_c_complete #[(.ref a)] h0 n0 (RetI (fun z => True) h0) := by
  refine Meth.of (plainFor_of_name pn_2) low ?_
  intro p e s m args below meth c T P
  refine Ends.cast (ef_12 m a) ?_
  refine aloadN P d12_0 rfl rfl (n := 1) rfl ?_
  refine getF P d12_1 (hw _ (List.mem_of_getElem? (i := 23) rfl)) F_status (n := 4) rfl ?_
  intro T P
  refine getS P d12_4 (hw _ (List.mem_of_getElem? (i := 97) rfl)) S_v (n := 7) rfl ?_
  intro T P
  refine acmpB P d12_7 rfl rfl (n' := 36) (n := 10) (by decide) rfl (fun hc7 => ?_) (fun hc7 => ?_)
  · -- pc 7 taken
    replace hc7 := nT hc7
    refine iconst P d12_36 (x := (0 : Int32)) rfl (n := 37) rfl ?_
    refine retZ P d12_37 (by decide) (by decide) (by decide) ?_
    exact RetI.mk trivial
  · -- pc 7 not taken
    replace hc7 := nF hc7
    refine aloadN P d12_10 rfl rfl (n := 11) rfl ?_
    refine getF P d12_11 (hw _ (List.mem_of_getElem? (i := 31) rfl)) F_matchedBrackets (n := 14) rfl ?_
    intro T P
    refine aloadN P d12_14 rfl rfl (n := 15) rfl ?_
    refine getF P d12_15 (hw _ (List.mem_of_getElem? (i := 27) rfl)) F_goldBrackets (n := 18) rfl ?_
    intro T P
    refine icmp_ne P d12_18 (n' := 36) (n := 21) (by decide) rfl (fun hc18 => ?_) (fun hc18 => ?_)
    · -- pc 18 taken
      refine iconst P d12_36 (x := (0 : Int32)) rfl (n := 37) rfl ?_
      refine retZ P d12_37 (by decide) (by decide) (by decide) ?_
      exact RetI.mk trivial
    · -- pc 18 not taken
      refine aloadN P d12_21 rfl rfl (n := 22) rfl ?_
      refine getF P d12_22 (hw _ (List.mem_of_getElem? (i := 31) rfl)) F_matchedBrackets (n := 25) rfl ?_
      intro T P
      refine aloadN P d12_25 rfl rfl (n := 26) rfl ?_
      refine getF P d12_26 (hw _ (List.mem_of_getElem? (i := 29) rfl)) F_parsedBrackets (n := 29) rfl ?_
      intro T P
      refine icmp_ne P d12_29 (n' := 36) (n := 32) (by decide) rfl (fun hc29 => ?_) (fun hc29 => ?_)
      · -- pc 29 taken
        refine iconst P d12_36 (x := (0 : Int32)) rfl (n := 37) rfl ?_
        refine retZ P d12_37 (by decide) (by decide) (by decide) ?_
        exact RetI.mk trivial
      · -- pc 29 not taken
        refine iconst P d12_32 (x := (1 : Int32)) rfl (n := 33) rfl ?_
        refine goto P d12_33 (n := 37) (by decide) ?_
        refine retZ P d12_37 (by decide) (by decide) (by decide) ?_
        exact RetI.mk trivial
theorem d5_0 : decode prog_90_method_1_code 0 = .ok (.aload_n 0, 1) := by decide +kernel
theorem d5_1 : decode prog_90_method_1_code 1 = .ok (.invokespecial 1, 3) := by decide +kernel
theorem d5_4 : decode prog_90_method_1_code 4 = .ok (.return_, 1) := by decide +kernel
theorem ef_5 (m : MethodId) (a : Addr) : entryFrame m #[(.ref a)] 1 = mkF m 0 #[.val (.ref a)] [] := by first | (simp [entryFrame, mkF, argsToLocals, Value.category]; done) | rfl
theorem pn_3 : plainName "com/example/spanwise/spanwise/trees/BracketTotals" = true := by first | (simp [plainName, overriddenIn]; done) | decide +kernel
abbrev rm_c_tnew : Room := { frames := 1, cells := 0, slots := 0, locals := 12 }
set_option maxRecDepth 65536 in
set_option maxHeartbeats 40000000 in
theorem c_tnew (l : Launch) (Z : State) (a0 : Array Value) (hw : ∀ d ∈ tables_1, d.before a0 Z = true) (a : Addr)  (h0 : Heap) (n0 : Nat) (low : n0 ≤ h0.size)  :
    Meth l Z (⟨"com/example/spanwise/spanwise/trees/BracketTotals", "<init>", "()V"⟩ : MethodName) prog_90_method_1_code 1 none rm_c_tnew #[(.ref a)] h0 n0 (RetV h0) := by
  refine Meth.of (plainFor_of_name pn_3) low ?_
  intro p e s m args below meth c T P
  refine Ends.cast (ef_5 m a) ?_
  refine aloadN P d5_0 rfl rfl (n := 1) rfl ?_
  refine initO P d5_1 (hw _ (List.mem_of_getElem? (i := 47) rfl)) (hw _ (List.mem_of_getElem? (i := 21) rfl)) (hw _ (List.mem_of_getElem? (i := 22) rfl)) rfl (by decide) (Nat.le_of_ble_eq_true rfl) (n := 4) rfl ?_
  intro T P
  refine retV P d5_4 (by decide) (by decide) ?_
  exact RetV.mk
theorem d6_0 : decode prog_90_method_2_code 0 = .ok (.aload_n 0, 1) := by decide +kernel
theorem d6_1 : decode prog_90_method_2_code 1 = .ok (.dup, 1) := by decide +kernel
theorem d6_2 : decode prog_90_method_2_code 2 = .ok (.getfield 7, 3) := by decide +kernel
theorem d6_5 : decode prog_90_method_2_code 5 = .ok (.iconst 1, 1) := by decide +kernel
theorem d6_6 : decode prog_90_method_2_code 6 = .ok (.iadd, 1) := by decide +kernel
theorem d6_7 : decode prog_90_method_2_code 7 = .ok (.putfield 7, 3) := by decide +kernel
theorem d6_10 : decode prog_90_method_2_code 10 = .ok (.aload_n 1, 1) := by decide +kernel
theorem d6_11 : decode prog_90_method_2_code 11 = .ok (.invokevirtual 13, 3) := by decide +kernel
theorem d6_14 : decode prog_90_method_2_code 14 = .ok (.getstatic 19, 3) := by decide +kernel
theorem d6_17 : decode prog_90_method_2_code 17 = .ok (.if_acmp .ne 14, 3) := by decide +kernel
theorem d6_20 : decode prog_90_method_2_code 20 = .ok (.aload_n 0, 1) := by decide +kernel
theorem d6_21 : decode prog_90_method_2_code 21 = .ok (.dup, 1) := by decide +kernel
theorem d6_22 : decode prog_90_method_2_code 22 = .ok (.getfield 25, 3) := by decide +kernel
theorem d6_25 : decode prog_90_method_2_code 25 = .ok (.iconst 1, 1) := by decide +kernel
theorem d6_26 : decode prog_90_method_2_code 26 = .ok (.iadd, 1) := by decide +kernel
theorem d6_27 : decode prog_90_method_2_code 27 = .ok (.putfield 25, 3) := by decide +kernel
theorem d6_30 : decode prog_90_method_2_code 30 = .ok (.return_, 1) := by decide +kernel
theorem d6_31 : decode prog_90_method_2_code 31 = .ok (.aload_n 1, 1) := by decide +kernel
theorem d6_32 : decode prog_90_method_2_code 32 = .ok (.invokevirtual 13, 3) := by decide +kernel
theorem d6_35 : decode prog_90_method_2_code 35 = .ok (.getstatic 28, 3) := by decide +kernel
theorem d6_38 : decode prog_90_method_2_code 38 = .ok (.if_acmp .ne 14, 3) := by decide +kernel
theorem d6_41 : decode prog_90_method_2_code 41 = .ok (.aload_n 0, 1) := by decide +kernel
theorem d6_42 : decode prog_90_method_2_code 42 = .ok (.dup, 1) := by decide +kernel
theorem d6_43 : decode prog_90_method_2_code 43 = .ok (.getfield 31, 3) := by decide +kernel
theorem d6_46 : decode prog_90_method_2_code 46 = .ok (.iconst 1, 1) := by decide +kernel
theorem d6_47 : decode prog_90_method_2_code 47 = .ok (.iadd, 1) := by decide +kernel
theorem d6_48 : decode prog_90_method_2_code 48 = .ok (.putfield 31, 3) := by decide +kernel
theorem d6_51 : decode prog_90_method_2_code 51 = .ok (.return_, 1) := by decide +kernel
theorem d6_52 : decode prog_90_method_2_code 52 = .ok (.aload_n 0, 1) := by decide +kernel
theorem d6_53 : decode prog_90_method_2_code 53 = .ok (.dup, 1) := by decide +kernel
theorem d6_54 : decode prog_90_method_2_code 54 = .ok (.getfield 34, 3) := by decide +kernel
theorem d6_57 : decode prog_90_method_2_code 57 = .ok (.aload_n 1, 1) := by decide +kernel
theorem d6_58 : decode prog_90_method_2_code 58 = .ok (.invokevirtual 38, 3) := by decide +kernel
theorem d6_61 : decode prog_90_method_2_code 61 = .ok (.i2l, 1) := by decide +kernel
theorem d6_62 : decode prog_90_method_2_code 62 = .ok (.ladd, 1) := by decide +kernel
theorem d6_63 : decode prog_90_method_2_code 63 = .ok (.putfield 34, 3) := by decide +kernel
theorem d6_66 : decode prog_90_method_2_code 66 = .ok (.aload_n 0, 1) := by decide +kernel
theorem d6_67 : decode prog_90_method_2_code 67 = .ok (.dup, 1) := by decide +kernel
theorem d6_68 : decode prog_90_method_2_code 68 = .ok (.getfield 41, 3) := by decide +kernel
theorem d6_71 : decode prog_90_method_2_code 71 = .ok (.aload_n 1, 1) := by decide +kernel
theorem d6_72 : decode prog_90_method_2_code 72 = .ok (.invokevirtual 44, 3) := by decide +kernel
theorem d6_75 : decode prog_90_method_2_code 75 = .ok (.i2l, 1) := by decide +kernel
theorem d6_76 : decode prog_90_method_2_code 76 = .ok (.ladd, 1) := by decide +kernel
theorem d6_77 : decode prog_90_method_2_code 77 = .ok (.putfield 41, 3) := by decide +kernel
theorem d6_80 : decode prog_90_method_2_code 80 = .ok (.aload_n 0, 1) := by decide +kernel
theorem d6_81 : decode prog_90_method_2_code 81 = .ok (.dup, 1) := by decide +kernel
theorem d6_82 : decode prog_90_method_2_code 82 = .ok (.getfield 46, 3) := by decide +kernel
theorem d6_85 : decode prog_90_method_2_code 85 = .ok (.aload_n 1, 1) := by decide +kernel
theorem d6_86 : decode prog_90_method_2_code 86 = .ok (.invokevirtual 49, 3) := by decide +kernel
theorem d6_89 : decode prog_90_method_2_code 89 = .ok (.i2l, 1) := by decide +kernel
theorem d6_90 : decode prog_90_method_2_code 90 = .ok (.ladd, 1) := by decide +kernel
theorem d6_91 : decode prog_90_method_2_code 91 = .ok (.putfield 46, 3) := by decide +kernel
theorem d6_94 : decode prog_90_method_2_code 94 = .ok (.aload_n 0, 1) := by decide +kernel
theorem d6_95 : decode prog_90_method_2_code 95 = .ok (.dup, 1) := by decide +kernel
theorem d6_96 : decode prog_90_method_2_code 96 = .ok (.getfield 51, 3) := by decide +kernel
theorem d6_99 : decode prog_90_method_2_code 99 = .ok (.aload_n 1, 1) := by decide +kernel
theorem d6_100 : decode prog_90_method_2_code 100 = .ok (.invokevirtual 54, 3) := by decide +kernel
theorem d6_103 : decode prog_90_method_2_code 103 = .ok (.i2l, 1) := by decide +kernel
theorem d6_104 : decode prog_90_method_2_code 104 = .ok (.ladd, 1) := by decide +kernel
theorem d6_105 : decode prog_90_method_2_code 105 = .ok (.putfield 51, 3) := by decide +kernel
theorem d6_108 : decode prog_90_method_2_code 108 = .ok (.aload_n 1, 1) := by decide +kernel
theorem d6_109 : decode prog_90_method_2_code 109 = .ok (.invokevirtual 56, 3) := by decide +kernel
theorem d6_112 : decode prog_90_method_2_code 112 = .ok (.ifCond .eq 13, 3) := by decide +kernel
theorem d6_115 : decode prog_90_method_2_code 115 = .ok (.aload_n 0, 1) := by decide +kernel
theorem d6_116 : decode prog_90_method_2_code 116 = .ok (.dup, 1) := by decide +kernel
theorem d6_117 : decode prog_90_method_2_code 117 = .ok (.getfield 60, 3) := by decide +kernel
theorem d6_120 : decode prog_90_method_2_code 120 = .ok (.iconst 1, 1) := by decide +kernel
theorem d6_121 : decode prog_90_method_2_code 121 = .ok (.iadd, 1) := by decide +kernel
theorem d6_122 : decode prog_90_method_2_code 122 = .ok (.putfield 60, 3) := by decide +kernel
theorem d6_125 : decode prog_90_method_2_code 125 = .ok (.aload_n 1, 1) := by decide +kernel
theorem d6_126 : decode prog_90_method_2_code 126 = .ok (.invokevirtual 54, 3) := by decide +kernel
theorem d6_129 : decode prog_90_method_2_code 129 = .ok (.ifCond .ne 13, 3) := by decide +kernel
theorem d6_132 : decode prog_90_method_2_code 132 = .ok (.aload_n 0, 1) := by decide +kernel
theorem d6_133 : decode prog_90_method_2_code 133 = .ok (.dup, 1) := by decide +kernel
theorem d6_134 : decode prog_90_method_2_code 134 = .ok (.getfield 63, 3) := by decide +kernel
theorem d6_137 : decode prog_90_method_2_code 137 = .ok (.iconst 1, 1) := by decide +kernel
theorem d6_138 : decode prog_90_method_2_code 138 = .ok (.iadd, 1) := by decide +kernel
theorem d6_139 : decode prog_90_method_2_code 139 = .ok (.putfield 63, 3) := by decide +kernel
theorem d6_142 : decode prog_90_method_2_code 142 = .ok (.aload_n 1, 1) := by decide +kernel
theorem d6_143 : decode prog_90_method_2_code 143 = .ok (.invokevirtual 54, 3) := by decide +kernel
theorem d6_146 : decode prog_90_method_2_code 146 = .ok (.iconst 2, 1) := by decide +kernel
theorem d6_147 : decode prog_90_method_2_code 147 = .ok (.if_icmp .gt 13, 3) := by decide +kernel
theorem d6_150 : decode prog_90_method_2_code 150 = .ok (.aload_n 0, 1) := by decide +kernel
theorem d6_151 : decode prog_90_method_2_code 151 = .ok (.dup, 1) := by decide +kernel
theorem d6_152 : decode prog_90_method_2_code 152 = .ok (.getfield 66, 3) := by decide +kernel
theorem d6_155 : decode prog_90_method_2_code 155 = .ok (.iconst 1, 1) := by decide +kernel
theorem d6_156 : decode prog_90_method_2_code 156 = .ok (.iadd, 1) := by decide +kernel
theorem d6_157 : decode prog_90_method_2_code 157 = .ok (.putfield 66, 3) := by decide +kernel
theorem d6_160 : decode prog_90_method_2_code 160 = .ok (.aload_n 0, 1) := by decide +kernel
theorem d6_161 : decode prog_90_method_2_code 161 = .ok (.dup, 1) := by decide +kernel
theorem d6_162 : decode prog_90_method_2_code 162 = .ok (.getfield 69, 3) := by decide +kernel
theorem d6_165 : decode prog_90_method_2_code 165 = .ok (.aload_n 1, 1) := by decide +kernel
theorem d6_166 : decode prog_90_method_2_code 166 = .ok (.invokevirtual 72, 3) := by decide +kernel
theorem d6_169 : decode prog_90_method_2_code 169 = .ok (.i2l, 1) := by decide +kernel
theorem d6_170 : decode prog_90_method_2_code 170 = .ok (.ladd, 1) := by decide +kernel
theorem d6_171 : decode prog_90_method_2_code 171 = .ok (.putfield 69, 3) := by decide +kernel
theorem d6_174 : decode prog_90_method_2_code 174 = .ok (.aload_n 0, 1) := by decide +kernel
theorem d6_175 : decode prog_90_method_2_code 175 = .ok (.dup, 1) := by decide +kernel
theorem d6_176 : decode prog_90_method_2_code 176 = .ok (.getfield 74, 3) := by decide +kernel
theorem d6_179 : decode prog_90_method_2_code 179 = .ok (.aload_n 1, 1) := by decide +kernel
theorem d6_180 : decode prog_90_method_2_code 180 = .ok (.invokevirtual 77, 3) := by decide +kernel
theorem d6_183 : decode prog_90_method_2_code 183 = .ok (.i2l, 1) := by decide +kernel
theorem d6_184 : decode prog_90_method_2_code 184 = .ok (.ladd, 1) := by decide +kernel
theorem d6_185 : decode prog_90_method_2_code 185 = .ok (.putfield 74, 3) := by decide +kernel
theorem d6_188 : decode prog_90_method_2_code 188 = .ok (.return_, 1) := by decide +kernel
theorem ef_6 (m : MethodId) (a : Addr) (b : Addr) : entryFrame m #[(.ref a), (.ref b)] 2 = mkF m 0 #[.val (.ref a), .val (.ref b)] [] := by first | (simp [entryFrame, mkF, argsToLocals, Value.category]; done) | rfl
theorem pd_1 : parseMethodDescriptor "()Lcom/example/spanwise/spanwise/trees/SentenceScore$Status;" = some ⟨[], some (.object "com/example/spanwise/spanwise/trees/SentenceScore$Status")⟩ := by decide +kernel
theorem pd_2 : parseMethodDescriptor "()I" = some ⟨[], some .int⟩ := by decide +kernel
theorem pd_3 : parseMethodDescriptor "()Z" = some ⟨[], some .boolean⟩ := by decide +kernel
abbrev rm_c_add : Room := { frames := 1, cells := 0, slots := 0, locals := 15 }
set_option maxRecDepth 65536 in
set_option maxHeartbeats 40000000 in
theorem c_add (l : Launch) (Z : State) (a0 : Array Value) (hw : ∀ d ∈ tables_1, d.before a0 Z = true) (a : Addr) (b : Addr) (us : Addr) (u2 u3 u4 u5 u6 u7 : Int32) (tp tm : Int64) (xv xe xk : Addr) (h0 : Heap) (n0 : Nat) (low : n0 ≤ h0.size) (TT : Exa Z h0 a "com/example/spanwise/spanwise/trees/BracketTotals" ∧ (∃ (t0 : Int32) (t1 : Int32) (t2 : Int32) (t3 : Int64) (t6 : Int64) (t7 : Int32) (t8 : Int32) (t9 : Int32) (t10 : Int64) (t11 : Int64), Fld Z h0 a "com/example/spanwise/spanwise/trees/BracketTotals" "sentences" "I" (.int t0) ∧ Fld Z h0 a "com/example/spanwise/spanwise/trees/BracketTotals" "errors" "I" (.int t1) ∧ Fld Z h0 a "com/example/spanwise/spanwise/trees/BracketTotals" "skipped" "I" (.int t2) ∧ Fld Z h0 a "com/example/spanwise/spanwise/trees/BracketTotals" "goldBrackets" "J" (.long t3) ∧ Fld Z h0 a "com/example/spanwise/spanwise/trees/BracketTotals" "crossingBrackets" "J" (.long t6) ∧ Fld Z h0 a "com/example/spanwise/spanwise/trees/BracketTotals" "completeMatches" "I" (.int t7) ∧ Fld Z h0 a "com/example/spanwise/spanwise/trees/BracketTotals" "withoutCrossing" "I" (.int t8) ∧ Fld Z h0 a "com/example/spanwise/spanwise/trees/BracketTotals" "withTwoOrLessCrossing" "I" (.int t9) ∧ Fld Z h0 a "com/example/spanwise/spanwise/trees/BracketTotals" "words" "J" (.long t10) ∧ Fld Z h0 a "com/example/spanwise/spanwise/trees/BracketTotals" "correctTags" "J" (.long t11)) ∧ Fld Z h0 a "com/example/spanwise/spanwise/trees/BracketTotals" "parsedBrackets" "J" (.long tp) ∧ Fld Z h0 a "com/example/spanwise/spanwise/trees/BracketTotals" "matchedBrackets" "J" (.long tm)) (E_b : Exa Z h0 b "com/example/spanwise/spanwise/trees/SentenceScore") (F_status : Fld Z h0 b "com/example/spanwise/spanwise/trees/SentenceScore" "status" "Lcom/example/spanwise/spanwise/trees/SentenceScore$Status;" (.ref us)) (F_goldBrackets : Fld Z h0 b "com/example/spanwise/spanwise/trees/SentenceScore" "goldBrackets" "I" (.int u2)) (F_parsedBrackets : Fld Z h0 b "com/example/spanwise/spanwise/trees/SentenceScore" "parsedBrackets" "I" (.int u3)) (F_matchedBrackets : Fld Z h0 b "com/example/spanwise/spanwise/trees/SentenceScore" "matchedBrackets" "I" (.int u4)) (F_crossingBrackets : Fld Z h0 b "com/example/spanwise/spanwise/trees/SentenceScore" "crossingBrackets" "I" (.int u5)) (F_words : Fld Z h0 b "com/example/spanwise/spanwise/trees/SentenceScore" "words" "I" (.int u6)) (F_correctTags : Fld Z h0 b "com/example/spanwise/spanwise/trees/SentenceScore" "correctTags" "I" (.int u7)) (S_v : Sta Z h0 "com/example/spanwise/spanwise/trees/SentenceScore$Status" "VALID" "Lcom/example/spanwise/spanwise/trees/SentenceScore$Status;" (.ref xv)) (S_e : Sta Z h0 "com/example/spanwise/spanwise/trees/SentenceScore$Status" "ERROR" "Lcom/example/spanwise/spanwise/trees/SentenceScore$Status;" (.ref xe)) (S_k : Sta Z h0 "com/example/spanwise/spanwise/trees/SentenceScore$Status" "SKIPPED" "Lcom/example/spanwise/spanwise/trees/SentenceScore$Status;" (.ref xk)) (hne : a ≠ b) (lo : n0 ≤ a) :
    Meth l Z (⟨"com/example/spanwise/spanwise/trees/BracketTotals", "add", "(Lcom/example/spanwise/spanwise/trees/SentenceScore;)V"⟩ : MethodName) prog_90_method_2_code 2 none rm_c_add #[(.ref a), (.ref b)] h0 n0 (fun v h => v = none ∧ Keep h0 h [a] ∧ ((us = xe ∨ us = xk) → (Exa Z h a "com/example/spanwise/spanwise/trees/BracketTotals" ∧ (∃ (t0 : Int32) (t1 : Int32) (t2 : Int32) (t3 : Int64) (t6 : Int64) (t7 : Int32) (t8 : Int32) (t9 : Int32) (t10 : Int64) (t11 : Int64), Fld Z h a "com/example/spanwise/spanwise/trees/BracketTotals" "sentences" "I" (.int t0) ∧ Fld Z h a "com/example/spanwise/spanwise/trees/BracketTotals" "errors" "I" (.int t1) ∧ Fld Z h a "com/example/spanwise/spanwise/trees/BracketTotals" "skipped" "I" (.int t2) ∧ Fld Z h a "com/example/spanwise/spanwise/trees/BracketTotals" "goldBrackets" "J" (.long t3) ∧ Fld Z h a "com/example/spanwise/spanwise/trees/BracketTotals" "crossingBrackets" "J" (.long t6) ∧ Fld Z h a "com/example/spanwise/spanwise/trees/BracketTotals" "completeMatches" "I" (.int t7) ∧ Fld Z h a "com/example/spanwise/spanwise/trees/BracketTotals" "withoutCrossing" "I" (.int t8) ∧ Fld Z h a "com/example/spanwise/spanwise/trees/BracketTotals" "withTwoOrLessCrossing" "I" (.int t9) ∧ Fld Z h a "com/example/spanwise/spanwise/trees/BracketTotals" "words" "J" (.long t10) ∧ Fld Z h a "com/example/spanwise/spanwise/trees/BracketTotals" "correctTags" "J" (.long t11)) ∧ Fld Z h a "com/example/spanwise/spanwise/trees/BracketTotals" "parsedBrackets" "J" (.long tp) ∧ Fld Z h a "com/example/spanwise/spanwise/trees/BracketTotals" "matchedBrackets" "J" (.long tm))) ∧ (¬ (us = xe ∨ us = xk) → (Exa Z h a "com/example/spanwise/spanwise/trees/BracketTotals" ∧ (∃ (t0 : Int32) (t1 : Int32) (t2 : Int32) (t3 : Int64) (t6 : Int64) (t7 : Int32) (t8 : Int32) (t9 : Int32) (t10 : Int64) (t11 : Int64), Fld Z h a "com/example/spanwise/spanwise/trees/BracketTotals" "sentences" "I" (.int t0) ∧ Fld Z h a "com/example/spanwise/spanwise/trees/BracketTotals" "errors" "I" (.int t1) ∧ Fld Z h a "com/example/spanwise/spanwise/trees/BracketTotals" "skipped" "I" (.int t2) ∧ Fld Z h a "com/example/spanwise/spanwise/trees/BracketTotals" "goldBrackets" "J" (.long t3) ∧ Fld Z h a "com/example/spanwise/spanwise/trees/BracketTotals" "crossingBrackets" "J" (.long t6) ∧ Fld Z h a "com/example/spanwise/spanwise/trees/BracketTotals" "completeMatches" "I" (.int t7) ∧ Fld Z h a "com/example/spanwise/spanwise/trees/BracketTotals" "withoutCrossing" "I" (.int t8) ∧ Fld Z h a "com/example/spanwise/spanwise/trees/BracketTotals" "withTwoOrLessCrossing" "I" (.int t9) ∧ Fld Z h a "com/example/spanwise/spanwise/trees/BracketTotals" "words" "J" (.long t10) ∧ Fld Z h a "com/example/spanwise/spanwise/trees/BracketTotals" "correctTags" "J" (.long t11)) ∧ Fld Z h a "com/example/spanwise/spanwise/trees/BracketTotals" "parsedBrackets" "J" (.long (tp + u3.toInt64)) ∧ Fld Z h a "com/example/spanwise/spanwise/trees/BracketTotals" "matchedBrackets" "J" (.long (tm + u4.toInt64))))) := by
  refine Meth.of (plainFor_of_name pn_3) low ?_
  intro p e s m args below meth c T P
  refine Ends.cast (ef_6 m a b) ?_
  obtain ⟨E_a, ⟨t0, t1, t2, t3, t6, t7, t8, t9, t10, t11, G_sentences, G_errors, G_skipped, G_goldBrackets, G_crossingBrackets, G_completeMatches, G_withoutCrossing, G_withTwoOrLessCrossing, G_words, G_correctTags⟩, G_parsedBrackets, G_matchedBrackets⟩ := TT
  have K := Keep.refl h0 [a]
  refine aloadN P d6_0 rfl rfl (n := 1) rfl ?_
  refine dup P d6_1 rfl (n := 2) rfl ?_
  refine getF P d6_2 (hw _ (List.mem_of_getElem? (i := 53) rfl)) G_sentences (n := 5) rfl ?_
  intro T P
  refine iconst P d6_5 (x := (1 : Int32)) rfl (n := 6) rfl ?_
  refine iadd P d6_6 (n := 7) rfl ?_
  refine putF P d6_7 (hw _ (List.mem_of_getElem? (i := 53) rfl)) G_sentences E_a (Or.inl (hw _ (List.mem_of_getElem? (i := 54) rfl))) (hw _ (List.mem_of_getElem? (i := 42) rfl)) (ty := .int) (by decide) rfl rfl lo (n := 10) rfl ?_
  intro T h1 P W2
  replace S_v := Sta.wr W2 S_v
  replace S_e := Sta.wr W2 S_e
  replace S_k := Sta.wr W2 S_k
  replace E_a := Exa.wr W2 E_a
  replace E_b := Exa.wr W2 E_b
  replace G_errors := Fld.other W2 G_errors (Or.inr (slot_ne (Or.inl (hw _ (List.mem_of_getElem? (i := 128) rfl))) (Or.inl (hw _ (List.mem_of_getElem? (i := 54) rfl))) (by decide) (t := .int) (t' := .int) (by decide) (by decide)))
  replace G_skipped := Fld.other W2 G_skipped (Or.inr (slot_ne (Or.inl (hw _ (List.mem_of_getElem? (i := 125) rfl))) (Or.inl (hw _ (List.mem_of_getElem? (i := 54) rfl))) (by decide) (t := .int) (t' := .int) (by decide) (by decide)))
  replace G_goldBrackets := Fld.other W2 G_goldBrackets (Or.inr (slot_ne (Or.inl (hw _ (List.mem_of_getElem? (i := 65) rfl))) (Or.inl (hw _ (List.mem_of_getElem? (i := 54) rfl))) (by decide) (t := .long) (t' := .int) (by decide) (by decide)))
  replace G_parsedBrackets := Fld.other W2 G_parsedBrackets (Or.inr (slot_ne (Or.inl (hw _ (List.mem_of_getElem? (i := 72) rfl))) (Or.inl (hw _ (List.mem_of_getElem? (i := 54) rfl))) (by decide) (t := .long) (t' := .int) (by decide) (by decide)))
  replace G_matchedBrackets := Fld.other W2 G_matchedBrackets (Or.inr (slot_ne (Or.inl (hw _ (List.mem_of_getElem? (i := 79) rfl))) (Or.inl (hw _ (List.mem_of_getElem? (i := 54) rfl))) (by decide) (t := .long) (t' := .int) (by decide) (by decide)))
  replace G_crossingBrackets := Fld.other W2 G_crossingBrackets (Or.inr (slot_ne (Or.inl (hw _ (List.mem_of_getElem? (i := 86) rfl))) (Or.inl (hw _ (List.mem_of_getElem? (i := 54) rfl))) (by decide) (t := .long) (t' := .int) (by decide) (by decide)))
  replace G_completeMatches := Fld.other W2 G_completeMatches (Or.inr (slot_ne (Or.inl (hw _ (List.mem_of_getElem? (i := 130) rfl))) (Or.inl (hw _ (List.mem_of_getElem? (i := 54) rfl))) (by decide) (t := .int) (t' := .int) (by decide) (by decide)))
  replace G_withoutCrossing := Fld.other W2 G_withoutCrossing (Or.inr (slot_ne (Or.inl (hw _ (List.mem_of_getElem? (i := 99) rfl))) (Or.inl (hw _ (List.mem_of_getElem? (i := 54) rfl))) (by decide) (t := .int) (t' := .int) (by decide) (by decide)))
  replace G_withTwoOrLessCrossing := Fld.other W2 G_withTwoOrLessCrossing (Or.inr (slot_ne (Or.inl (hw _ (List.mem_of_getElem? (i := 101) rfl))) (Or.inl (hw _ (List.mem_of_getElem? (i := 54) rfl))) (by decide) (t := .int) (t' := .int) (by decide) (by decide)))
  replace G_words := Fld.other W2 G_words (Or.inr (slot_ne (Or.inl (hw _ (List.mem_of_getElem? (i := 103) rfl))) (Or.inl (hw _ (List.mem_of_getElem? (i := 54) rfl))) (by decide) (t := .long) (t' := .int) (by decide) (by decide)))
  replace G_correctTags := Fld.other W2 G_correctTags (Or.inr (slot_ne (Or.inl (hw _ (List.mem_of_getElem? (i := 110) rfl))) (Or.inl (hw _ (List.mem_of_getElem? (i := 54) rfl))) (by decide) (t := .long) (t' := .int) (by decide) (by decide)))
  replace F_status := Fld.other W2 F_status (Or.inl (Ne.symm hne))
  replace F_goldBrackets := Fld.other W2 F_goldBrackets (Or.inl (Ne.symm hne))
  replace F_parsedBrackets := Fld.other W2 F_parsedBrackets (Or.inl (Ne.symm hne))
  replace F_matchedBrackets := Fld.other W2 F_matchedBrackets (Or.inl (Ne.symm hne))
  replace F_crossingBrackets := Fld.other W2 F_crossingBrackets (Or.inl (Ne.symm hne))
  replace F_words := Fld.other W2 F_words (Or.inl (Ne.symm hne))
  replace F_correctTags := Fld.other W2 F_correctTags (Or.inl (Ne.symm hne))
  replace G_sentences := Fld.same W2 G_sentences
  have K := Keep.wr K W2 (Or.inl (by simp))
  refine aloadN P d6_10 rfl rfl (n := 11) rfl ?_
  refine callV P d6_11 (a := b) (argsL := []) (rest := []) (c_status l Z a0 hw b us h1 n0 P.low F_status) E_b (hw _ (List.mem_of_getElem? (i := 55) rfl)) (hw _ (List.mem_of_getElem? (i := 56) rfl)) (notFace_of_selects (args := #[]) (mvT P.hZ (hw _ (List.mem_of_getElem? (i := 58) rfl)))) (hw _ (List.mem_of_getElem? (i := 58) rfl)) (hw _ (List.mem_of_getElem? (i := 57) rfl)) (hw _ (List.mem_of_getElem? (i := 11) rfl)) (hw _ (List.mem_of_getElem? (i := 59) rfl)) (by decide) pd_1 rfl rfl rfl ⟨by decide, Nat.le_of_ble_eq_true rfl, by decide, by decide⟩ (n := 14) rfl (Ret.on ?_)
  intro T P
  refine getS P d6_14 (hw _ (List.mem_of_getElem? (i := 60) rfl)) S_e (n := 17) rfl ?_
  intro T P
  refine acmpB P d6_17 rfl rfl (n' := 31) (n := 20) (by decide) rfl (fun hc17 => ?_) (fun hc17 => ?_)
  · -- pc 17 taken
    replace hc17 := nT hc17
    refine aloadN P d6_31 rfl rfl (n := 32) rfl ?_
    refine callV P d6_32 (a := b) (argsL := []) (rest := []) (c_status l Z a0 hw b us h1 n0 P.low F_status) E_b (hw _ (List.mem_of_getElem? (i := 55) rfl)) (hw _ (List.mem_of_getElem? (i := 56) rfl)) (notFace_of_selects (args := #[]) (mvT P.hZ (hw _ (List.mem_of_getElem? (i := 58) rfl)))) (hw _ (List.mem_of_getElem? (i := 58) rfl)) (hw _ (List.mem_of_getElem? (i := 57) rfl)) (hw _ (List.mem_of_getElem? (i := 11) rfl)) (hw _ (List.mem_of_getElem? (i := 59) rfl)) (by decide) pd_1 rfl rfl rfl ⟨by decide, Nat.le_of_ble_eq_true rfl, by decide, by decide⟩ (n := 35) rfl (Ret.on ?_)
    intro T P
    refine getS P d6_35 (hw _ (List.mem_of_getElem? (i := 62) rfl)) S_k (n := 38) rfl ?_
    intro T P
    refine acmpB P d6_38 rfl rfl (n' := 52) (n := 41) (by decide) rfl (fun hc38 => ?_) (fun hc38 => ?_)
    · -- pc 38 taken
      replace hc38 := nT hc38
      refine aloadN P d6_52 rfl rfl (n := 53) rfl ?_
      refine dup P d6_53 rfl (n := 54) rfl ?_
      refine getF P d6_54 (hw _ (List.mem_of_getElem? (i := 64) rfl)) G_goldBrackets (n := 57) rfl ?_
      intro T P
      refine aloadN P d6_57 rfl rfl (n := 58) rfl ?_
      refine callV P d6_58 (a := b) (argsL := []) (rest := [(.long t3), (.ref a)]) (c_goldBrackets l Z a0 hw b u2 h1 n0 P.low F_goldBrackets) E_b (hw _ (List.mem_of_getElem? (i := 66) rfl)) (hw _ (List.mem_of_getElem? (i := 67) rfl)) (notFace_of_selects (args := #[]) (mvT P.hZ (hw _ (List.mem_of_getElem? (i := 69) rfl)))) (hw _ (List.mem_of_getElem? (i := 69) rfl)) (hw _ (List.mem_of_getElem? (i := 68) rfl)) (hw _ (List.mem_of_getElem? (i := 11) rfl)) (hw _ (List.mem_of_getElem? (i := 70) rfl)) (by decide) pd_2 rfl rfl rfl ⟨by decide, Nat.le_of_ble_eq_true rfl, by decide, by decide⟩ (n := 61) rfl (Ret.on ?_)
      intro T P
      refine i2l P d6_61 (n := 62) rfl ?_
      refine ladd P d6_62 (n := 63) rfl ?_
      refine putF P d6_63 (hw _ (List.mem_of_getElem? (i := 64) rfl)) G_goldBrackets E_a (Or.inl (hw _ (List.mem_of_getElem? (i := 65) rfl))) (hw _ (List.mem_of_getElem? (i := 42) rfl)) (ty := .long) (by decide) rfl rfl lo (n := 66) rfl ?_
      intro T h3 P W4
      replace S_v := Sta.wr W4 S_v
      replace S_e := Sta.wr W4 S_e
      replace S_k := Sta.wr W4 S_k
      replace E_a := Exa.wr W4 E_a
      replace E_b := Exa.wr W4 E_b
      replace G_sentences := Fld.other W4 G_sentences (Or.inr (slot_ne (Or.inl (hw _ (List.mem_of_getElem? (i := 54) rfl))) (Or.inl (hw _ (List.mem_of_getElem? (i := 65) rfl))) (by decide) (t := .int) (t' := .long) (by decide) (by decide)))
      replace G_errors := Fld.other W4 G_errors (Or.inr (slot_ne (Or.inl (hw _ (List.mem_of_getElem? (i := 128) rfl))) (Or.inl (hw _ (List.mem_of_getElem? (i := 65) rfl))) (by decide) (t := .int) (t' := .long) (by decide) (by decide)))
      replace G_skipped := Fld.other W4 G_skipped (Or.inr (slot_ne (Or.inl (hw _ (List.mem_of_getElem? (i := 125) rfl))) (Or.inl (hw _ (List.mem_of_getElem? (i := 65) rfl))) (by decide) (t := .int) (t' := .long) (by decide) (by decide)))
      replace G_parsedBrackets := Fld.other W4 G_parsedBrackets (Or.inr (slot_ne (Or.inl (hw _ (List.mem_of_getElem? (i := 72) rfl))) (Or.inl (hw _ (List.mem_of_getElem? (i := 65) rfl))) (by decide) (t := .long) (t' := .long) (by decide) (by decide)))
      replace G_matchedBrackets := Fld.other W4 G_matchedBrackets (Or.inr (slot_ne (Or.inl (hw _ (List.mem_of_getElem? (i := 79) rfl))) (Or.inl (hw _ (List.mem_of_getElem? (i := 65) rfl))) (by decide) (t := .long) (t' := .long) (by decide) (by decide)))
      replace G_crossingBrackets := Fld.other W4 G_crossingBrackets (Or.inr (slot_ne (Or.inl (hw _ (List.mem_of_getElem? (i := 86) rfl))) (Or.inl (hw _ (List.mem_of_getElem? (i := 65) rfl))) (by decide) (t := .long) (t' := .long) (by decide) (by decide)))
      replace G_completeMatches := Fld.other W4 G_completeMatches (Or.inr (slot_ne (Or.inl (hw _ (List.mem_of_getElem? (i := 130) rfl))) (Or.inl (hw _ (List.mem_of_getElem? (i := 65) rfl))) (by decide) (t := .int) (t' := .long) (by decide) (by decide)))
      replace G_withoutCrossing := Fld.other W4 G_withoutCrossing (Or.inr (slot_ne (Or.inl (hw _ (List.mem_of_getElem? (i := 99) rfl))) (Or.inl (hw _ (List.mem_of_getElem? (i := 65) rfl))) (by decide) (t := .int) (t' := .long) (by decide) (by decide)))
      replace G_withTwoOrLessCrossing := Fld.other W4 G_withTwoOrLessCrossing (Or.inr (slot_ne (Or.inl (hw _ (List.mem_of_getElem? (i := 101) rfl))) (Or.inl (hw _ (List.mem_of_getElem? (i := 65) rfl))) (by decide) (t := .int) (t' := .long) (by decide) (by decide)))
      replace G_words := Fld.other W4 G_words (Or.inr (slot_ne (Or.inl (hw _ (List.mem_of_getElem? (i := 103) rfl))) (Or.inl (hw _ (List.mem_of_getElem? (i := 65) rfl))) (by decide) (t := .long) (t' := .long) (by decide) (by decide)))
      replace G_correctTags := Fld.other W4 G_correctTags (Or.inr (slot_ne (Or.inl (hw _ (List.mem_of_getElem? (i := 110) rfl))) (Or.inl (hw _ (List.mem_of_getElem? (i := 65) rfl))) (by decide) (t := .long) (t' := .long) (by decide) (by decide)))
      replace F_status := Fld.other W4 F_status (Or.inl (Ne.symm hne))
      replace F_goldBrackets := Fld.other W4 F_goldBrackets (Or.inl (Ne.symm hne))
      replace F_parsedBrackets := Fld.other W4 F_parsedBrackets (Or.inl (Ne.symm hne))
      replace F_matchedBrackets := Fld.other W4 F_matchedBrackets (Or.inl (Ne.symm hne))
      replace F_crossingBrackets := Fld.other W4 F_crossingBrackets (Or.inl (Ne.symm hne))
      replace F_words := Fld.other W4 F_words (Or.inl (Ne.symm hne))
      replace F_correctTags := Fld.other W4 F_correctTags (Or.inl (Ne.symm hne))
      replace G_goldBrackets := Fld.same W4 G_goldBrackets
      have K := Keep.wr K W4 (Or.inl (by simp))
      refine aloadN P d6_66 rfl rfl (n := 67) rfl ?_
      refine dup P d6_67 rfl (n := 68) rfl ?_
      refine getF P d6_68 (hw _ (List.mem_of_getElem? (i := 71) rfl)) G_parsedBrackets (n := 71) rfl ?_
      intro T P
      refine aloadN P d6_71 rfl rfl (n := 72) rfl ?_
      refine callV P d6_72 (a := b) (argsL := []) (rest := [(.long tp), (.ref a)]) (c_parsedBrackets l Z a0 hw b u3 h3 n0 P.low F_parsedBrackets) E_b (hw _ (List.mem_of_getElem? (i := 73) rfl)) (hw _ (List.mem_of_getElem? (i := 74) rfl)) (notFace_of_selects (args := #[]) (mvT P.hZ (hw _ (List.mem_of_getElem? (i := 76) rfl)))) (hw _ (List.mem_of_getElem? (i := 76) rfl)) (hw _ (List.mem_of_getElem? (i := 75) rfl)) (hw _ (List.mem_of_getElem? (i := 11) rfl)) (hw _ (List.mem_of_getElem? (i := 77) rfl)) (by decide) pd_2 rfl rfl rfl ⟨by decide, Nat.le_of_ble_eq_true rfl, by decide, by decide⟩ (n := 75) rfl (Ret.on ?_)
      intro T P
      refine i2l P d6_75 (n := 76) rfl ?_
      refine ladd P d6_76 (n := 77) rfl ?_
      refine putF P d6_77 (hw _ (List.mem_of_getElem? (i := 71) rfl)) G_parsedBrackets E_a (Or.inl (hw _ (List.mem_of_getElem? (i := 72) rfl))) (hw _ (List.mem_of_getElem? (i := 42) rfl)) (ty := .long) (by decide) rfl rfl lo (n := 80) rfl ?_
      intro T h5 P W6
      replace S_v := Sta.wr W6 S_v
      replace S_e := Sta.wr W6 S_e
      replace S_k := Sta.wr W6 S_k
      replace E_a := Exa.wr W6 E_a
      replace E_b := Exa.wr W6 E_b
      replace G_sentences := Fld.other W6 G_sentences (Or.inr (slot_ne (Or.inl (hw _ (List.mem_of_getElem? (i := 54) rfl))) (Or.inl (hw _ (List.mem_of_getElem? (i := 72) rfl))) (by decide) (t := .int) (t' := .long) (by decide) (by decide)))
      replace G_errors := Fld.other W6 G_errors (Or.inr (slot_ne (Or.inl (hw _ (List.mem_of_getElem? (i := 128) rfl))) (Or.inl (hw _ (List.mem_of_getElem? (i := 72) rfl))) (by decide) (t := .int) (t' := .long) (by decide) (by decide)))
      replace G_skipped := Fld.other W6 G_skipped (Or.inr (slot_ne (Or.inl (hw _ (List.mem_of_getElem? (i := 125) rfl))) (Or.inl (hw _ (List.mem_of_getElem? (i := 72) rfl))) (by decide) (t := .int) (t' := .long) (by decide) (by decide)))
      replace G_goldBrackets := Fld.other W6 G_goldBrackets (Or.inr (slot_ne (Or.inl (hw _ (List.mem_of_getElem? (i := 65) rfl))) (Or.inl (hw _ (List.mem_of_getElem? (i := 72) rfl))) (by decide) (t := .long) (t' := .long) (by decide) (by decide)))
      replace G_matchedBrackets := Fld.other W6 G_matchedBrackets (Or.inr (slot_ne (Or.inl (hw _ (List.mem_of_getElem? (i := 79) rfl))) (Or.inl (hw _ (List.mem_of_getElem? (i := 72) rfl))) (by decide) (t := .long) (t' := .long) (by decide) (by decide)))
      replace G_crossingBrackets := Fld.other W6 G_crossingBrackets (Or.inr (slot_ne (Or.inl (hw _ (List.mem_of_getElem? (i := 86) rfl))) (Or.inl (hw _ (List.mem_of_getElem? (i := 72) rfl))) (by decide) (t := .long) (t' := .long) (by decide) (by decide)))
      replace G_completeMatches := Fld.other W6 G_completeMatches (Or.inr (slot_ne (Or.inl (hw _ (List.mem_of_getElem? (i := 130) rfl))) (Or.inl (hw _ (List.mem_of_getElem? (i := 72) rfl))) (by decide) (t := .int) (t' := .long) (by decide) (by decide)))
      replace G_withoutCrossing := Fld.other W6 G_withoutCrossing (Or.inr (slot_ne (Or.inl (hw _ (List.mem_of_getElem? (i := 99) rfl))) (Or.inl (hw _ (List.mem_of_getElem? (i := 72) rfl))) (by decide) (t := .int) (t' := .long) (by decide) (by decide)))
      replace G_withTwoOrLessCrossing := Fld.other W6 G_withTwoOrLessCrossing (Or.inr (slot_ne (Or.inl (hw _ (List.mem_of_getElem? (i := 101) rfl))) (Or.inl (hw _ (List.mem_of_getElem? (i := 72) rfl))) (by decide) (t := .int) (t' := .long) (by decide) (by decide)))
      replace G_words := Fld.other W6 G_words (Or.inr (slot_ne (Or.inl (hw _ (List.mem_of_getElem? (i := 103) rfl))) (Or.inl (hw _ (List.mem_of_getElem? (i := 72) rfl))) (by decide) (t := .long) (t' := .long) (by decide) (by decide)))
      replace G_correctTags := Fld.other W6 G_correctTags (Or.inr (slot_ne (Or.inl (hw _ (List.mem_of_getElem? (i := 110) rfl))) (Or.inl (hw _ (List.mem_of_getElem? (i := 72) rfl))) (by decide) (t := .long) (t' := .long) (by decide) (by decide)))
      replace F_status := Fld.other W6 F_status (Or.inl (Ne.symm hne))
      replace F_goldBrackets := Fld.other W6 F_goldBrackets (Or.inl (Ne.symm hne))
      replace F_parsedBrackets := Fld.other W6 F_parsedBrackets (Or.inl (Ne.symm hne))
      replace F_matchedBrackets := Fld.other W6 F_matchedBrackets (Or.inl (Ne.symm hne))
      replace F_crossingBrackets := Fld.other W6 F_crossingBrackets (Or.inl (Ne.symm hne))
      replace F_words := Fld.other W6 F_words (Or.inl (Ne.symm hne))
      replace F_correctTags := Fld.other W6 F_correctTags (Or.inl (Ne.symm hne))
      replace G_parsedBrackets := Fld.same W6 G_parsedBrackets
      have K := Keep.wr K W6 (Or.inl (by simp))
      refine aloadN P d6_80 rfl rfl (n := 81) rfl ?_
      refine dup P d6_81 rfl (n := 82) rfl ?_
      refine getF P d6_82 (hw _ (List.mem_of_getElem? (i := 78) rfl)) G_matchedBrackets (n := 85) rfl ?_
      intro T P
      refine aloadN P d6_85 rfl rfl (n := 86) rfl ?_
      refine callV P d6_86 (a := b) (argsL := []) (rest := [(.long tm), (.ref a)]) (c_matchedBrackets l Z a0 hw b u4 h5 n0 P.low F_matchedBrackets) E_b (hw _ (List.mem_of_getElem? (i := 80) rfl)) (hw _ (List.mem_of_getElem? (i := 81) rfl)) (notFace_of_selects (args := #[]) (mvT P.hZ (hw _ (List.mem_of_getElem? (i := 83) rfl)))) (hw _ (List.mem_of_getElem? (i := 83) rfl)) (hw _ (List.mem_of_getElem? (i := 82) rfl)) (hw _ (List.mem_of_getElem? (i := 11) rfl)) (hw _ (List.mem_of_getElem? (i := 84) rfl)) (by decide) pd_2 rfl rfl rfl ⟨by decide, Nat.le_of_ble_eq_true rfl, by decide, by decide⟩ (n := 89) rfl (Ret.on ?_)
      intro T P
      refine i2l P d6_89 (n := 90) rfl ?_
      refine ladd P d6_90 (n := 91) rfl ?_
      refine putF P d6_91 (hw _ (List.mem_of_getElem? (i := 78) rfl)) G_matchedBrackets E_a (Or.inl (hw _ (List.mem_of_getElem? (i := 79) rfl))) (hw _ (List.mem_of_getElem? (i := 42) rfl)) (ty := .long) (by decide) rfl rfl lo (n := 94) rfl ?_
      intro T h7 P W8
      replace S_v := Sta.wr W8 S_v
      replace S_e := Sta.wr W8 S_e
      replace S_k := Sta.wr W8 S_k
      replace E_a := Exa.wr W8 E_a
      replace E_b := Exa.wr W8 E_b
      replace G_sentences := Fld.other W8 G_sentences (Or.inr (slot_ne (Or.inl (hw _ (List.mem_of_getElem? (i := 54) rfl))) (Or.inl (hw _ (List.mem_of_getElem? (i := 79) rfl))) (by decide) (t := .int) (t' := .long) (by decide) (by decide)))
      replace G_errors := Fld.other W8 G_errors (Or.inr (slot_ne (Or.inl (hw _ (List.mem_of_getElem? (i := 128) rfl))) (Or.inl (hw _ (List.mem_of_getElem? (i := 79) rfl))) (by decide) (t := .int) (t' := .long) (by decide) (by decide)))
      replace G_skipped := Fld.other W8 G_skipped (Or.inr (slot_ne (Or.inl (hw _ (List.mem_of_getElem? (i := 125) rfl))) (Or.inl (hw _ (List.mem_of_getElem? (i := 79) rfl))) (by decide) (t := .int) (t' := .long) (by decide) (by decide)))
      replace G_goldBrackets := Fld.other W8 G_goldBrackets (Or.inr (slot_ne (Or.inl (hw _ (List.mem_of_getElem? (i := 65) rfl))) (Or.inl (hw _ (List.mem_of_getElem? (i := 79) rfl))) (by decide) (t := .long) (t' := .long) (by decide) (by decide)))
      replace G_parsedBrackets := Fld.other W8 G_parsedBrackets (Or.inr (slot_ne (Or.inl (hw _ (List.mem_of_getElem? (i := 72) rfl))) (Or.inl (hw _ (List.mem_of_getElem? (i := 79) rfl))) (by decide) (t := .long) (t' := .long) (by decide) (by decide)))
      replace G_crossingBrackets := Fld.other W8 G_crossingBrackets (Or.inr (slot_ne (Or.inl (hw _ (List.mem_of_getElem? (i := 86) rfl))) (Or.inl (hw _ (List.mem_of_getElem? (i := 79) rfl))) (by decide) (t := .long) (t' := .long) (by decide) (by decide)))
      replace G_completeMatches := Fld.other W8 G_completeMatches (Or.inr (slot_ne (Or.inl (hw _ (List.mem_of_getElem? (i := 130) rfl))) (Or.inl (hw _ (List.mem_of_getElem? (i := 79) rfl))) (by decide) (t := .int) (t' := .long) (by decide) (by decide)))
      replace G_withoutCrossing := Fld.other W8 G_withoutCrossing (Or.inr (slot_ne (Or.inl (hw _ (List.mem_of_getElem? (i := 99) rfl))) (Or.inl (hw _ (List.mem_of_getElem? (i := 79) rfl))) (by decide) (t := .int) (t' := .long) (by decide) (by decide)))
      replace G_withTwoOrLessCrossing := Fld.other W8 G_withTwoOrLessCrossing (Or.inr (slot_ne (Or.inl (hw _ (List.mem_of_getElem? (i := 101) rfl))) (Or.inl (hw _ (List.mem_of_getElem? (i := 79) rfl))) (by decide) (t := .int) (t' := .long) (by decide) (by decide)))
      replace G_words := Fld.other W8 G_words (Or.inr (slot_ne (Or.inl (hw _ (List.mem_of_getElem? (i := 103) rfl))) (Or.inl (hw _ (List.mem_of_getElem? (i := 79) rfl))) (by decide) (t := .long) (t' := .long) (by decide) (by decide)))
      replace G_correctTags := Fld.other W8 G_correctTags (Or.inr (slot_ne (Or.inl (hw _ (List.mem_of_getElem? (i := 110) rfl))) (Or.inl (hw _ (List.mem_of_getElem? (i := 79) rfl))) (by decide) (t := .long) (t' := .long) (by decide) (by decide)))
      replace F_status := Fld.other W8 F_status (Or.inl (Ne.symm hne))
      replace F_goldBrackets := Fld.other W8 F_goldBrackets (Or.inl (Ne.symm hne))
      replace F_parsedBrackets := Fld.other W8 F_parsedBrackets (Or.inl (Ne.symm hne))
      replace F_matchedBrackets := Fld.other W8 F_matchedBrackets (Or.inl (Ne.symm hne))
      replace F_crossingBrackets := Fld.other W8 F_crossingBrackets (Or.inl (Ne.symm hne))
      replace F_words := Fld.other W8 F_words (Or.inl (Ne.symm hne))
      replace F_correctTags := Fld.other W8 F_correctTags (Or.inl (Ne.symm hne))
      replace G_matchedBrackets := Fld.same W8 G_matchedBrackets
      have K := Keep.wr K W8 (Or.inl (by simp))
      refine aloadN P d6_94 rfl rfl (n := 95) rfl ?_
      refine dup P d6_95 rfl (n := 96) rfl ?_
      refine getF P d6_96 (hw _ (List.mem_of_getElem? (i := 85) rfl)) G_crossingBrackets (n := 99) rfl ?_
      intro T P
      refine aloadN P d6_99 rfl rfl (n := 100) rfl ?_
      refine callV P d6_100 (a := b) (argsL := []) (rest := [(.long t6), (.ref a)]) (c_crossingBrackets l Z a0 hw b u5 h7 n0 P.low F_crossingBrackets) E_b (hw _ (List.mem_of_getElem? (i := 87) rfl)) (hw _ (List.mem_of_getElem? (i := 88) rfl)) (notFace_of_selects (args := #[]) (mvT P.hZ (hw _ (List.mem_of_getElem? (i := 90) rfl)))) (hw _ (List.mem_of_getElem? (i := 90) rfl)) (hw _ (List.mem_of_getElem? (i := 89) rfl)) (hw _ (List.mem_of_getElem? (i := 11) rfl)) (hw _ (List.mem_of_getElem? (i := 91) rfl)) (by decide) pd_2 rfl rfl rfl ⟨by decide, Nat.le_of_ble_eq_true rfl, by decide, by decide⟩ (n := 103) rfl (Ret.on ?_)
      intro T P
      refine i2l P d6_103 (n := 104) rfl ?_
      refine ladd P d6_104 (n := 105) rfl ?_
      refine putF P d6_105 (hw _ (List.mem_of_getElem? (i := 85) rfl)) G_crossingBrackets E_a (Or.inl (hw _ (List.mem_of_getElem? (i := 86) rfl))) (hw _ (List.mem_of_getElem? (i := 42) rfl)) (ty := .long) (by decide) rfl rfl lo (n := 108) rfl ?_
      intro T h9 P W10
      replace S_v := Sta.wr W10 S_v
      replace S_e := Sta.wr W10 S_e
      replace S_k := Sta.wr W10 S_k
      replace E_a := Exa.wr W10 E_a
      replace E_b := Exa.wr W10 E_b
      replace G_sentences := Fld.other W10 G_sentences (Or.inr (slot_ne (Or.inl (hw _ (List.mem_of_getElem? (i := 54) rfl))) (Or.inl (hw _ (List.mem_of_getElem? (i := 86) rfl))) (by decide) (t := .int) (t' := .long) (by decide) (by decide)))
      replace G_errors := Fld.other W10 G_errors (Or.inr (slot_ne (Or.inl (hw _ (List.mem_of_getElem? (i := 128) rfl))) (Or.inl (hw _ (List.mem_of_getElem? (i := 86) rfl))) (by decide) (t := .int) (t' := .long) (by decide) (by decide)))
      replace G_skipped := Fld.other W10 G_skipped (Or.inr (slot_ne (Or.inl (hw _ (List.mem_of_getElem? (i := 125) rfl))) (Or.inl (hw _ (List.mem_of_getElem? (i := 86) rfl))) (by decide) (t := .int) (t' := .long) (by decide) (by decide)))
      replace G_goldBrackets := Fld.other W10 G_goldBrackets (Or.inr (slot_ne (Or.inl (hw _ (List.mem_of_getElem? (i := 65) rfl))) (Or.inl (hw _ (List.mem_of_getElem? (i := 86) rfl))) (by decide) (t := .long) (t' := .long) (by decide) (by decide)))
      replace G_parsedBrackets := Fld.other W10 G_parsedBrackets (Or.inr (slot_ne (Or.inl (hw _ (List.mem_of_getElem? (i := 72) rfl))) (Or.inl (hw _ (List.mem_of_getElem? (i := 86) rfl))) (by decide) (t := .long) (t' := .long) (by decide) (by decide)))
      replace G_matchedBrackets := Fld.other W10 G_matchedBrackets (Or.inr (slot_ne (Or.inl (hw _ (List.mem_of_getElem? (i := 79) rfl))) (Or.inl (hw _ (List.mem_of_getElem? (i := 86) rfl))) (by decide) (t := .long) (t' := .long) (by decide) (by decide)))
      replace G_completeMatches := Fld.other W10 G_completeMatches (Or.inr (slot_ne (Or.inl (hw _ (List.mem_of_getElem? (i := 130) rfl))) (Or.inl (hw _ (List.mem_of_getElem? (i := 86) rfl))) (by decide) (t := .int) (t' := .long) (by decide) (by decide)))
      replace G_withoutCrossing := Fld.other W10 G_withoutCrossing (Or.inr (slot_ne (Or.inl (hw _ (List.mem_of_getElem? (i := 99) rfl))) (Or.inl (hw _ (List.mem_of_getElem? (i := 86) rfl))) (by decide) (t := .int) (t' := .long) (by decide) (by decide)))
      replace G_withTwoOrLessCrossing := Fld.other W10 G_withTwoOrLessCrossing (Or.inr (slot_ne (Or.inl (hw _ (List.mem_of_getElem? (i := 101) rfl))) (Or.inl (hw _ (List.mem_of_getElem? (i := 86) rfl))) (by decide) (t := .int) (t' := .long) (by decide) (by decide)))
      replace G_words := Fld.other W10 G_words (Or.inr (slot_ne (Or.inl (hw _ (List.mem_of_getElem? (i := 103) rfl))) (Or.inl (hw _ (List.mem_of_getElem? (i := 86) rfl))) (by decide) (t := .long) (t' := .long) (by decide) (by decide)))
      replace G_correctTags := Fld.other W10 G_correctTags (Or.inr (slot_ne (Or.inl (hw _ (List.mem_of_getElem? (i := 110) rfl))) (Or.inl (hw _ (List.mem_of_getElem? (i := 86) rfl))) (by decide) (t := .long) (t' := .long) (by decide) (by decide)))
      replace F_status := Fld.other W10 F_status (Or.inl (Ne.symm hne))
      replace F_goldBrackets := Fld.other W10 F_goldBrackets (Or.inl (Ne.symm hne))
      replace F_parsedBrackets := Fld.other W10 F_parsedBrackets (Or.inl (Ne.symm hne))
      replace F_matchedBrackets := Fld.other W10 F_matchedBrackets (Or.inl (Ne.symm hne))
      replace F_crossingBrackets := Fld.other W10 F_crossingBrackets (Or.inl (Ne.symm hne))
      replace F_words := Fld.other W10 F_words (Or.inl (Ne.symm hne))
      replace F_correctTags := Fld.other W10 F_correctTags (Or.inl (Ne.symm hne))
      replace G_crossingBrackets := Fld.same W10 G_crossingBrackets
      have K := Keep.wr K W10 (Or.inl (by simp))
      refine aloadN P d6_108 rfl rfl (n := 109) rfl ?_
      refine callV P d6_109 (a := b) (argsL := []) (rest := []) (c_complete l Z a0 hw b us u2 u3 u4 xv xe xk h9 n0 P.low F_status F_goldBrackets F_parsedBrackets F_matchedBrackets S_v S_e S_k) E_b (hw _ (List.mem_of_getElem? (i := 92) rfl)) (hw _ (List.mem_of_getElem? (i := 93) rfl)) (notFace_of_selects (args := #[]) (mvT P.hZ (hw _ (List.mem_of_getElem? (i := 95) rfl)))) (hw _ (List.mem_of_getElem? (i := 95) rfl)) (hw _ (List.mem_of_getElem? (i := 94) rfl)) (hw _ (List.mem_of_getElem? (i := 11) rfl)) (hw _ (List.mem_of_getElem? (i := 96) rfl)) (by decide) pd_3 rfl rfl rfl ⟨by decide, Nat.le_of_ble_eq_true rfl, by decide, by decide⟩ (n := 112) rfl (RetI.on ?_)
      intro T r11 P hr11
      refine if0_eq P d6_112 (n' := 125) (n := 115) (by decide) rfl (fun hc112 => ?_) (fun hc112 => ?_)
      · -- pc 112 taken
        replace hc112 : r11.toInt = (0 : Int) := hc112
        refine aloadN P d6_125 rfl rfl (n := 126) rfl ?_
        refine callV P d6_126 (a := b) (argsL := []) (rest := []) (c_crossingBrackets l Z a0 hw b u5 h9 n0 P.low F_crossingBrackets) E_b (hw _ (List.mem_of_getElem? (i := 87) rfl)) (hw _ (List.mem_of_getElem? (i := 88) rfl)) (notFace_of_selects (args := #[]) (mvT P.hZ (hw _ (List.mem_of_getElem? (i := 90) rfl)))) (hw _ (List.mem_of_getElem? (i := 90) rfl)) (hw _ (List.mem_of_getElem? (i := 89) rfl)) (hw _ (List.mem_of_getElem? (i := 11) rfl)) (hw _ (List.mem_of_getElem? (i := 91) rfl)) (by decide) pd_2 rfl rfl rfl ⟨by decide, Nat.le_of_ble_eq_true rfl, by decide, by decide⟩ (n := 129) rfl (Ret.on ?_)
        intro T P
        refine if0_ne P d6_129 (n' := 142) (n := 132) (by decide) rfl (fun hc129 => ?_) (fun hc129 => ?_)
        · -- pc 129 taken
          replace hc129 : ¬ u5.toInt = (0 : Int) := hc129
          refine aloadN P d6_142 rfl rfl (n := 143) rfl ?_
          refine callV P d6_143 (a := b) (argsL := []) (rest := []) (c_crossingBrackets l Z a0 hw b u5 h9 n0 P.low F_crossingBrackets) E_b (hw _ (List.mem_of_getElem? (i := 87) rfl)) (hw _ (List.mem_of_getElem? (i := 88) rfl)) (notFace_of_selects (args := #[]) (mvT P.hZ (hw _ (List.mem_of_getElem? (i := 90) rfl)))) (hw _ (List.mem_of_getElem? (i := 90) rfl)) (hw _ (List.mem_of_getElem? (i := 89) rfl)) (hw _ (List.mem_of_getElem? (i := 11) rfl)) (hw _ (List.mem_of_getElem? (i := 91) rfl)) (by decide) pd_2 rfl rfl rfl ⟨by decide, Nat.le_of_ble_eq_true rfl, by decide, by decide⟩ (n := 146) rfl (Ret.on ?_)
          intro T P
          refine iconst P d6_146 (x := (2 : Int32)) rfl (n := 147) rfl ?_
          refine icmp_gt P d6_147 (n' := 160) (n := 150) (by decide) rfl (fun hc147 => ?_) (fun hc147 => ?_)
          · -- pc 147 taken
            replace hc147 : (2 : Int) < u5.toInt := hc147
            refine aloadN P d6_160 rfl rfl (n := 161) rfl ?_
            refine dup P d6_161 rfl (n := 162) rfl ?_
            refine getF P d6_162 (hw _ (List.mem_of_getElem? (i := 102) rfl)) G_words (n := 165) rfl ?_
            intro T P
            refine aloadN P d6_165 rfl rfl (n := 166) rfl ?_
            refine callV P d6_166 (a := b) (argsL := []) (rest := [(.long t10), (.ref a)]) (c_words l Z a0 hw b u6 h9 n0 P.low F_words) E_b (hw _ (List.mem_of_getElem? (i := 104) rfl)) (hw _ (List.mem_of_getElem? (i := 105) rfl)) (notFace_of_selects (args := #[]) (mvT P.hZ (hw _ (List.mem_of_getElem? (i := 107) rfl)))) (hw _ (List.mem_of_getElem? (i := 107) rfl)) (hw _ (List.mem_of_getElem? (i := 106) rfl)) (hw _ (List.mem_of_getElem? (i := 11) rfl)) (hw _ (List.mem_of_getElem? (i := 108) rfl)) (by decide) pd_2 rfl rfl rfl ⟨by decide, Nat.le_of_ble_eq_true rfl, by decide, by decide⟩ (n := 169) rfl (Ret.on ?_)
            intro T P
            refine i2l P d6_169 (n := 170) rfl ?_
            refine ladd P d6_170 (n := 171) rfl ?_
            refine putF P d6_171 (hw _ (List.mem_of_getElem? (i := 102) rfl)) G_words E_a (Or.inl (hw _ (List.mem_of_getElem? (i := 103) rfl))) (hw _ (List.mem_of_getElem? (i := 42) rfl)) (ty := .long) (by decide) rfl rfl lo (n := 174) rfl ?_
            intro T h12 P W13
            replace S_v := Sta.wr W13 S_v
            replace S_e := Sta.wr W13 S_e
            replace S_k := Sta.wr W13 S_k
            replace E_a := Exa.wr W13 E_a
            replace E_b := Exa.wr W13 E_b
            replace G_sentences := Fld.other W13 G_sentences (Or.inr (slot_ne (Or.inl (hw _ (List.mem_of_getElem? (i := 54) rfl))) (Or.inl (hw _ (List.mem_of_getElem? (i := 103) rfl))) (by decide) (t := .int) (t' := .long) (by decide) (by decide)))
            replace G_errors := Fld.other W13 G_errors (Or.inr (slot_ne (Or.inl (hw _ (List.mem_of_getElem? (i := 128) rfl))) (Or.inl (hw _ (List.mem_of_getElem? (i := 103) rfl))) (by decide) (t := .int) (t' := .long) (by decide) (by decide)))
            replace G_skipped := Fld.other W13 G_skipped (Or.inr (slot_ne (Or.inl (hw _ (List.mem_of_getElem? (i := 125) rfl))) (Or.inl (hw _ (List.mem_of_getElem? (i := 103) rfl))) (by decide) (t := .int) (t' := .long) (by decide) (by decide)))
            replace G_goldBrackets := Fld.other W13 G_goldBrackets (Or.inr (slot_ne (Or.inl (hw _ (List.mem_of_getElem? (i := 65) rfl))) (Or.inl (hw _ (List.mem_of_getElem? (i := 103) rfl))) (by decide) (t := .long) (t' := .long) (by decide) (by decide)))
            replace G_parsedBrackets := Fld.other W13 G_parsedBrackets (Or.inr (slot_ne (Or.inl (hw _ (List.mem_of_getElem? (i := 72) rfl))) (Or.inl (hw _ (List.mem_of_getElem? (i := 103) rfl))) (by decide) (t := .long) (t' := .long) (by decide) (by decide)))
            replace G_matchedBrackets := Fld.other W13 G_matchedBrackets (Or.inr (slot_ne (Or.inl (hw _ (List.mem_of_getElem? (i := 79) rfl))) (Or.inl (hw _ (List.mem_of_getElem? (i := 103) rfl))) (by decide) (t := .long) (t' := .long) (by decide) (by decide)))
            replace G_crossingBrackets := Fld.other W13 G_crossingBrackets (Or.inr (slot_ne (Or.inl (hw _ (List.mem_of_getElem? (i := 86) rfl))) (Or.inl (hw _ (List.mem_of_getElem? (i := 103) rfl))) (by decide) (t := .long) (t' := .long) (by decide) (by decide)))
            replace G_completeMatches := Fld.other W13 G_completeMatches (Or.inr (slot_ne (Or.inl (hw _ (List.mem_of_getElem? (i := 130) rfl))) (Or.inl (hw _ (List.mem_of_getElem? (i := 103) rfl))) (by decide) (t := .int) (t' := .long) (by decide) (by decide)))
            replace G_withoutCrossing := Fld.other W13 G_withoutCrossing (Or.inr (slot_ne (Or.inl (hw _ (List.mem_of_getElem? (i := 99) rfl))) (Or.inl (hw _ (List.mem_of_getElem? (i := 103) rfl))) (by decide) (t := .int) (t' := .long) (by decide) (by decide)))
            replace G_withTwoOrLessCrossing := Fld.other W13 G_withTwoOrLessCrossing (Or.inr (slot_ne (Or.inl (hw _ (List.mem_of_getElem? (i := 101) rfl))) (Or.inl (hw _ (List.mem_of_getElem? (i := 103) rfl))) (by decide) (t := .int) (t' := .long) (by decide) (by decide)))
            replace G_correctTags := Fld.other W13 G_correctTags (Or.inr (slot_ne (Or.inl (hw _ (List.mem_of_getElem? (i := 110) rfl))) (Or.inl (hw _ (List.mem_of_getElem? (i := 103) rfl))) (by decide) (t := .long) (t' := .long) (by decide) (by decide)))
            replace F_status := Fld.other W13 F_status (Or.inl (Ne.symm hne))
            replace F_goldBrackets := Fld.other W13 F_goldBrackets (Or.inl (Ne.symm hne))
            replace F_parsedBrackets := Fld.other W13 F_parsedBrackets (Or.inl (Ne.symm hne))
            replace F_matchedBrackets := Fld.other W13 F_matchedBrackets (Or.inl (Ne.symm hne))
            replace F_crossingBrackets := Fld.other W13 F_crossingBrackets (Or.inl (Ne.symm hne))
            replace F_words := Fld.other W13 F_words (Or.inl (Ne.symm hne))
            replace F_correctTags := Fld.other W13 F_correctTags (Or.inl (Ne.symm hne))
            replace G_words := Fld.same W13 G_words
            have K := Keep.wr K W13 (Or.inl (by simp))
            refine aloadN P d6_174 rfl rfl (n := 175) rfl ?_
            refine dup P d6_175 rfl (n := 176) rfl ?_
            refine getF P d6_176 (hw _ (List.mem_of_getElem? (i := 109) rfl)) G_correctTags (n := 179) rfl ?_
            intro T P
            refine aloadN P d6_179 rfl rfl (n := 180) rfl ?_
            refine callV P d6_180 (a := b) (argsL := []) (rest := [(.long t11), (.ref a)]) (c_correctTags l Z a0 hw b u7 h12 n0 P.low F_correctTags) E_b (hw _ (List.mem_of_getElem? (i := 111) rfl)) (hw _ (List.mem_of_getElem? (i := 112) rfl)) (notFace_of_selects (args := #[]) (mvT P.hZ (hw _ (List.mem_of_getElem? (i := 114) rfl)))) (hw _ (List.mem_of_getElem? (i := 114) rfl)) (hw _ (List.mem_of_getElem? (i := 113) rfl)) (hw _ (List.mem_of_getElem? (i := 11) rfl)) (hw _ (List.mem_of_getElem? (i := 115) rfl)) (by decide) pd_2 rfl rfl rfl ⟨by decide, Nat.le_of_ble_eq_true rfl, by decide, by decide⟩ (n := 183) rfl (Ret.on ?_)
            intro T P
            refine i2l P d6_183 (n := 184) rfl ?_
            refine ladd P d6_184 (n := 185) rfl ?_
            refine putF P d6_185 (hw _ (List.mem_of_getElem? (i := 109) rfl)) G_correctTags E_a (Or.inl (hw _ (List.mem_of_getElem? (i := 110) rfl))) (hw _ (List.mem_of_getElem? (i := 42) rfl)) (ty := .long) (by decide) rfl rfl lo (n := 188) rfl ?_
            intro T h14 P W15
            replace S_v := Sta.wr W15 S_v
            replace S_e := Sta.wr W15 S_e
            replace S_k := Sta.wr W15 S_k
            replace E_a := Exa.wr W15 E_a
            replace E_b := Exa.wr W15 E_b
            replace G_sentences := Fld.other W15 G_sentences (Or.inr (slot_ne (Or.inl (hw _ (List.mem_of_getElem? (i := 54) rfl))) (Or.inl (hw _ (List.mem_of_getElem? (i := 110) rfl))) (by decide) (t := .int) (t' := .long) (by decide) (by decide)))
            replace G_errors := Fld.other W15 G_errors (Or.inr (slot_ne (Or.inl (hw _ (List.mem_of_getElem? (i := 128) rfl))) (Or.inl (hw _ (List.mem_of_getElem? (i := 110) rfl))) (by decide) (t := .int) (t' := .long) (by decide) (by decide)))
            replace G_skipped := Fld.other W15 G_skipped (Or.inr (slot_ne (Or.inl (hw _ (List.mem_of_getElem? (i := 125) rfl))) (Or.inl (hw _ (List.mem_of_getElem? (i := 110) rfl))) (by decide) (t := .int) (t' := .long) (by decide) (by decide)))
            replace G_goldBrackets := Fld.other W15 G_goldBrackets (Or.inr (slot_ne (Or.inl (hw _ (List.mem_of_getElem? (i := 65) rfl))) (Or.inl (hw _ (List.mem_of_getElem? (i := 110) rfl))) (by decide) (t := .long) (t' := .long) (by decide) (by decide)))
            replace G_parsedBrackets := Fld.other W15 G_parsedBrackets (Or.inr (slot_ne (Or.inl (hw _ (List.mem_of_getElem? (i := 72) rfl))) (Or.inl (hw _ (List.mem_of_getElem? (i := 110) rfl))) (by decide) (t := .long) (t' := .long) (by decide) (by decide)))
            replace G_matchedBrackets := Fld.other W15 G_matchedBrackets (Or.inr (slot_ne (Or.inl (hw _ (List.mem_of_getElem? (i := 79) rfl))) (Or.inl (hw _ (List.mem_of_getElem? (i := 110) rfl))) (by decide) (t := .long) (t' := .long) (by decide) (by decide)))
            replace G_crossingBrackets := Fld.other W15 G_crossingBrackets (Or.inr (slot_ne (Or.inl (hw _ (List.mem_of_getElem? (i := 86) rfl))) (Or.inl (hw _ (List.mem_of_getElem? (i := 110) rfl))) (by decide) (t := .long) (t' := .long) (by decide) (by decide)))
            replace G_completeMatches := Fld.other W15 G_completeMatches (Or.inr (slot_ne (Or.inl (hw _ (List.mem_of_getElem? (i := 130) rfl))) (Or.inl (hw _ (List.mem_of_getElem? (i := 110) rfl))) (by decide) (t := .int) (t' := .long) (by decide) (by decide)))
            replace G_withoutCrossing := Fld.other W15 G_withoutCrossing (Or.inr (slot_ne (Or.inl (hw _ (List.mem_of_getElem? (i := 99) rfl))) (Or.inl (hw _ (List.mem_of_getElem? (i := 110) rfl))) (by decide) (t := .int) (t' := .long) (by decide) (by decide)))
            replace G_withTwoOrLessCrossing := Fld.other W15 G_withTwoOrLessCrossing (Or.inr (slot_ne (Or.inl (hw _ (List.mem_of_getElem? (i := 101) rfl))) (Or.inl (hw _ (List.mem_of_getElem? (i := 110) rfl))) (by decide) (t := .int) (t' := .long) (by decide) (by decide)))
            replace G_words := Fld.other W15 G_words (Or.inr (slot_ne (Or.inl (hw _ (List.mem_of_getElem? (i := 103) rfl))) (Or.inl (hw _ (List.mem_of_getElem? (i := 110) rfl))) (by decide) (t := .long) (t' := .long) (by decide) (by decide)))
            replace F_status := Fld.other W15 F_status (Or.inl (Ne.symm hne))
            replace F_goldBrackets := Fld.other W15 F_goldBrackets (Or.inl (Ne.symm hne))
            replace F_parsedBrackets := Fld.other W15 F_parsedBrackets (Or.inl (Ne.symm hne))
            replace F_matchedBrackets := Fld.other W15 F_matchedBrackets (Or.inl (Ne.symm hne))
            replace F_crossingBrackets := Fld.other W15 F_crossingBrackets (Or.inl (Ne.symm hne))
            replace F_words := Fld.other W15 F_words (Or.inl (Ne.symm hne))
            replace F_correctTags := Fld.other W15 F_correctTags (Or.inl (Ne.symm hne))
            replace G_correctTags := Fld.same W15 G_correctTags
            have K := Keep.wr K W15 (Or.inl (by simp))
            refine retV P d6_188 (by decide) (by decide) ?_
            refine ⟨rfl, K, fun q => ?_, fun _ => ⟨E_a, ⟨_, _, _, _, _, _, _, _, _, _, G_sentences, G_errors, G_skipped, G_goldBrackets, G_crossingBrackets, G_completeMatches, G_withoutCrossing, G_withTwoOrLessCrossing, G_words, G_correctTags⟩, G_parsedBrackets, G_matchedBrackets⟩⟩
            rcases q with q | q
            · exact absurd (congrArg Value.ref q) hc17
            · exact absurd (congrArg Value.ref q) hc38
          · -- pc 147 not taken
            replace hc147 : u5.toInt ≤ (2 : Int) := hc147
            refine aloadN P d6_150 rfl rfl (n := 151) rfl ?_
            refine dup P d6_151 rfl (n := 152) rfl ?_
            refine getF P d6_152 (hw _ (List.mem_of_getElem? (i := 100) rfl)) G_withTwoOrLessCrossing (n := 155) rfl ?_
            intro T P
            refine iconst P d6_155 (x := (1 : Int32)) rfl (n := 156) rfl ?_
            refine iadd P d6_156 (n := 157) rfl ?_
            refine putF P d6_157 (hw _ (List.mem_of_getElem? (i := 100) rfl)) G_withTwoOrLessCrossing E_a (Or.inl (hw _ (List.mem_of_getElem? (i := 101) rfl))) (hw _ (List.mem_of_getElem? (i := 42) rfl)) (ty := .int) (by decide) rfl rfl lo (n := 160) rfl ?_
            intro T h16 P W17
            replace S_v := Sta.wr W17 S_v
            replace S_e := Sta.wr W17 S_e
            replace S_k := Sta.wr W17 S_k
            replace E_a := Exa.wr W17 E_a
            replace E_b := Exa.wr W17 E_b
            replace G_sentences := Fld.other W17 G_sentences (Or.inr (slot_ne (Or.inl (hw _ (List.mem_of_getElem? (i := 54) rfl))) (Or.inl (hw _ (List.mem_of_getElem? (i := 101) rfl))) (by decide) (t := .int) (t' := .int) (by decide) (by decide)))
            replace G_errors := Fld.other W17 G_errors (Or.inr (slot_ne (Or.inl (hw _ (List.mem_of_getElem? (i := 128) rfl))) (Or.inl (hw _ (List.mem_of_getElem? (i := 101) rfl))) (by decide) (t := .int) (t' := .int) (by decide) (by decide)))
            replace G_skipped := Fld.other W17 G_skipped (Or.inr (slot_ne (Or.inl (hw _ (List.mem_of_getElem? (i := 125) rfl))) (Or.inl (hw _ (List.mem_of_getElem? (i := 101) rfl))) (by decide) (t := .int) (t' := .int) (by decide) (by decide)))
            replace G_goldBrackets := Fld.other W17 G_goldBrackets (Or.inr (slot_ne (Or.inl (hw _ (List.mem_of_getElem? (i := 65) rfl))) (Or.inl (hw _ (List.mem_of_getElem? (i := 101) rfl))) (by decide) (t := .long) (t' := .int) (by decide) (by decide)))
            replace G_parsedBrackets := Fld.other W17 G_parsedBrackets (Or.inr (slot_ne (Or.inl (hw _ (List.mem_of_getElem? (i := 72) rfl))) (Or.inl (hw _ (List.mem_of_getElem? (i := 101) rfl))) (by decide) (t := .long) (t' := .int) (by decide) (by decide)))
            replace G_matchedBrackets := Fld.other W17 G_matchedBrackets (Or.inr (slot_ne (Or.inl (hw _ (List.mem_of_getElem? (i := 79) rfl))) (Or.inl (hw _ (List.mem_of_getElem? (i := 101) rfl))) (by decide) (t := .long) (t' := .int) (by decide) (by decide)))
            replace G_crossingBrackets := Fld.other W17 G_crossingBrackets (Or.inr (slot_ne (Or.inl (hw _ (List.mem_of_getElem? (i := 86) rfl))) (Or.inl (hw _ (List.mem_of_getElem? (i := 101) rfl))) (by decide) (t := .long) (t' := .int) (by decide) (by decide)))
            replace G_completeMatches := Fld.other W17 G_completeMatches (Or.inr (slot_ne (Or.inl (hw _ (List.mem_of_getElem? (i := 130) rfl))) (Or.inl (hw _ (List.mem_of_getElem? (i := 101) rfl))) (by decide) (t := .int) (t' := .int) (by decide) (by decide)))
            replace G_withoutCrossing := Fld.other W17 G_withoutCrossing (Or.inr (slot_ne (Or.inl (hw _ (List.mem_of_getElem? (i := 99) rfl))) (Or.inl (hw _ (List.mem_of_getElem? (i := 101) rfl))) (by decide) (t := .int) (t' := .int) (by decide) (by decide)))
            replace G_words := Fld.other W17 G_words (Or.inr (slot_ne (Or.inl (hw _ (List.mem_of_getElem? (i := 103) rfl))) (Or.inl (hw _ (List.mem_of_getElem? (i := 101) rfl))) (by decide) (t := .long) (t' := .int) (by decide) (by decide)))
            replace G_correctTags := Fld.other W17 G_correctTags (Or.inr (slot_ne (Or.inl (hw _ (List.mem_of_getElem? (i := 110) rfl))) (Or.inl (hw _ (List.mem_of_getElem? (i := 101) rfl))) (by decide) (t := .long) (t' := .int) (by decide) (by decide)))
            replace F_status := Fld.other W17 F_status (Or.inl (Ne.symm hne))
            replace F_goldBrackets := Fld.other W17 F_goldBrackets (Or.inl (Ne.symm hne))
            replace F_parsedBrackets := Fld.other W17 F_parsedBrackets (Or.inl (Ne.symm hne))
            replace F_matchedBrackets := Fld.other W17 F_matchedBrackets (Or.inl (Ne.symm hne))
            replace F_crossingBrackets := Fld.other W17 F_crossingBrackets (Or.inl (Ne.symm hne))
            replace F_words := Fld.other W17 F_words (Or.inl (Ne.symm hne))
            replace F_correctTags := Fld.other W17 F_correctTags (Or.inl (Ne.symm hne))
            replace G_withTwoOrLessCrossing := Fld.same W17 G_withTwoOrLessCrossing
            have K := Keep.wr K W17 (Or.inl (by simp))
            refine aloadN P d6_160 rfl rfl (n := 161) rfl ?_
            refine dup P d6_161 rfl (n := 162) rfl ?_
            refine getF P d6_162 (hw _ (List.mem_of_getElem? (i := 102) rfl)) G_words (n := 165) rfl ?_
            intro T P
            refine aloadN P d6_165 rfl rfl (n := 166) rfl ?_
            refine callV P d6_166 (a := b) (argsL := []) (rest := [(.long t10), (.ref a)]) (c_words l Z a0 hw b u6 h16 n0 P.low F_words) E_b (hw _ (List.mem_of_getElem? (i := 104) rfl)) (hw _ (List.mem_of_getElem? (i := 105) rfl)) (notFace_of_selects (args := #[]) (mvT P.hZ (hw _ (List.mem_of_getElem? (i := 107) rfl)))) (hw _ (List.mem_of_getElem? (i := 107) rfl)) (hw _ (List.mem_of_getElem? (i := 106) rfl)) (hw _ (List.mem_of_getElem? (i := 11) rfl)) (hw _ (List.mem_of_getElem? (i := 108) rfl)) (by decide) pd_2 rfl rfl rfl ⟨by decide, Nat.le_of_ble_eq_true rfl, by decide, by decide⟩ (n := 169) rfl (Ret.on ?_)
            intro T P
            refine i2l P d6_169 (n := 170) rfl ?_
            refine ladd P d6_170 (n := 171) rfl ?_
            refine putF P d6_171 (hw _ (List.mem_of_getElem? (i := 102) rfl)) G_words E_a (Or.inl (hw _ (List.mem_of_getElem? (i := 103) rfl))) (hw _ (List.mem_of_getElem? (i := 42) rfl)) (ty := .long) (by decide) rfl rfl lo (n := 174) rfl ?_
            intro T h18 P W19
            replace S_v := Sta.wr W19 S_v
            replace S_e := Sta.wr W19 S_e
            replace S_k := Sta.wr W19 S_k
            replace E_a := Exa.wr W19 E_a
            replace E_b := Exa.wr W19 E_b
            replace G_sentences := Fld.other W19 G_sentences (Or.inr (slot_ne (Or.inl (hw _ (List.mem_of_getElem? (i := 54) rfl))) (Or.inl (hw _ (List.mem_of_getElem? (i := 103) rfl))) (by decide) (t := .int) (t' := .long) (by decide) (by decide)))
            replace G_errors := Fld.other W19 G_errors (Or.inr (slot_ne (Or.inl (hw _ (List.mem_of_getElem? (i := 128) rfl))) (Or.inl (hw _ (List.mem_of_getElem? (i := 103) rfl))) (by decide) (t := .int) (t' := .long) (by decide) (by decide)))
            replace G_skipped := Fld.other W19 G_skipped (Or.inr (slot_ne (Or.inl (hw _ (List.mem_of_getElem? (i := 125) rfl))) (Or.inl (hw _ (List.mem_of_getElem? (i := 103) rfl))) (by decide) (t := .int) (t' := .long) (by decide) (by decide)))
            replace G_goldBrackets := Fld.other W19 G_goldBrackets (Or.inr (slot_ne (Or.inl (hw _ (List.mem_of_getElem? (i := 65) rfl))) (Or.inl (hw _ (List.mem_of_getElem? (i := 103) rfl))) (by decide) (t := .long) (t' := .long) (by decide) (by decide)))
            replace G_parsedBrackets := Fld.other W19 G_parsedBrackets (Or.inr (slot_ne (Or.inl (hw _ (List.mem_of_getElem? (i := 72) rfl))) (Or.inl (hw _ (List.mem_of_getElem? (i := 103) rfl))) (by decide) (t := .long) (t' := .long) (by decide) (by decide)))
            replace G_matchedBrackets := Fld.other W19 G_matchedBrackets (Or.inr (slot_ne (Or.inl (hw _ (List.mem_of_getElem? (i := 79) rfl))) (Or.inl (hw _ (List.mem_of_getElem? (i := 103) rfl))) (by decide) (t := .long) (t' := .long) (by decide) (by decide)))
            replace G_crossingBrackets := Fld.other W19 G_crossingBrackets (Or.inr (slot_ne (Or.inl (hw _ (List.mem_of_getElem? (i := 86) rfl))) (Or.inl (hw _ (List.mem_of_getElem? (i := 103) rfl))) (by decide) (t := .long) (t' := .long) (by decide) (by decide)))
            replace G_completeMatches := Fld.other W19 G_completeMatches (Or.inr (slot_ne (Or.inl (hw _ (List.mem_of_getElem? (i := 130) rfl))) (Or.inl (hw _ (List.mem_of_getElem? (i := 103) rfl))) (by decide) (t := .int) (t' := .long) (by decide) (by decide)))
            replace G_withoutCrossing := Fld.other W19 G_withoutCrossing (Or.inr (slot_ne (Or.inl (hw _ (List.mem_of_getElem? (i := 99) rfl))) (Or.inl (hw _ (List.mem_of_getElem? (i := 103) rfl))) (by decide) (t := .int) (t' := .long) (by decide) (by decide)))
            replace G_withTwoOrLessCrossing := Fld.other W19 G_withTwoOrLessCrossing (Or.inr (slot_ne (Or.inl (hw _ (List.mem_of_getElem? (i := 101) rfl))) (Or.inl (hw _ (List.mem_of_getElem? (i := 103) rfl))) (by decide) (t := .int) (t' := .long) (by decide) (by decide)))
            replace G_correctTags := Fld.other W19 G_correctTags (Or.inr (slot_ne (Or.inl (hw _ (List.mem_of_getElem? (i := 110) rfl))) (Or.inl (hw _ (List.mem_of_getElem? (i := 103) rfl))) (by decide) (t := .long) (t' := .long) (by decide) (by decide)))
            replace F_status := Fld.other W19 F_status (Or.inl (Ne.symm hne))
            replace F_goldBrackets := Fld.other W19 F_goldBrackets (Or.inl (Ne.symm hne))
            replace F_parsedBrackets := Fld.other W19 F_parsedBrackets (Or.inl (Ne.symm hne))
            replace F_matchedBrackets := Fld.other W19 F_matchedBrackets (Or.inl (Ne.symm hne))
            replace F_crossingBrackets := Fld.other W19 F_crossingBrackets (Or.inl (Ne.symm hne))
            replace F_words := Fld.other W19 F_words (Or.inl (Ne.symm hne))
            replace F_correctTags := Fld.other W19 F_correctTags (Or.inl (Ne.symm hne))
            replace G_words := Fld.same W19 G_words
            have K := Keep.wr K W19 (Or.inl (by simp))
            refine aloadN P d6_174 rfl rfl (n := 175) rfl ?_
            refine dup P d6_175 rfl (n := 176) rfl ?_
            refine getF P d6_176 (hw _ (List.mem_of_getElem? (i := 109) rfl)) G_correctTags (n := 179) rfl ?_
            intro T P
            refine aloadN P d6_179 rfl rfl (n := 180) rfl ?_
            refine callV P d6_180 (a := b) (argsL := []) (rest := [(.long t11), (.ref a)]) (c_correctTags l Z a0 hw b u7 h18 n0 P.low F_correctTags) E_b (hw _ (List.mem_of_getElem? (i := 111) rfl)) (hw _ (List.mem_of_getElem? (i := 112) rfl)) (notFace_of_selects (args := #[]) (mvT P.hZ (hw _ (List.mem_of_getElem? (i := 114) rfl)))) (hw _ (List.mem_of_getElem? (i := 114) rfl)) (hw _ (List.mem_of_getElem? (i := 113) rfl)) (hw _ (List.mem_of_getElem? (i := 11) rfl)) (hw _ (List.mem_of_getElem? (i := 115) rfl)) (by decide) pd_2 rfl rfl rfl ⟨by decide, Nat.le_of_ble_eq_true rfl, by decide, by decide⟩ (n := 183) rfl (Ret.on ?_)
            intro T P
            refine i2l P d6_183 (n := 184) rfl ?_
            refine ladd P d6_184 (n := 185) rfl ?_
            refine putF P d6_185 (hw _ (List.mem_of_getElem? (i := 109) rfl)) G_correctTags E_a (Or.inl (hw _ (List.mem_of_getElem? (i := 110) rfl))) (hw _ (List.mem_of_getElem? (i := 42) rfl)) (ty := .long) (by decide) rfl rfl lo (n := 188) rfl ?_
            intro T h20 P W21
            replace S_v := Sta.wr W21 S_v
            replace S_e := Sta.wr W21 S_e
            replace S_k := Sta.wr W21 S_k
            replace E_a := Exa.wr W21 E_a
            replace E_b := Exa.wr W21 E_b
            replace G_sentences := Fld.other W21 G_sentences (Or.inr (slot_ne (Or.inl (hw _ (List.mem_of_getElem? (i := 54) rfl))) (Or.inl (hw _ (List.mem_of_getElem? (i := 110) rfl))) (by decide) (t := .int) (t' := .long) (by decide) (by decide)))
            replace G_errors := Fld.other W21 G_errors (Or.inr (slot_ne (Or.inl (hw _ (List.mem_of_getElem? (i := 128) rfl))) (Or.inl (hw _ (List.mem_of_getElem? (i := 110) rfl))) (by decide) (t := .int) (t' := .long) (by decide) (by decide)))
            replace G_skipped := Fld.other W21 G_skipped (Or.inr (slot_ne (Or.inl (hw _ (List.mem_of_getElem? (i := 125) rfl))) (Or.inl (hw _ (List.mem_of_getElem? (i := 110) rfl))) (by decide) (t := .int) (t' := .long) (by decide) (by decide)))
            replace G_goldBrackets := Fld.other W21 G_goldBrackets (Or.inr (slot_ne (Or.inl (hw _ (List.mem_of_getElem? (i := 65) rfl))) (Or.inl (hw _ (List.mem_of_getElem? (i := 110) rfl))) (by decide) (t := .long) (t' := .long) (by decide) (by decide)))
            replace G_parsedBrackets := Fld.other W21 G_parsedBrackets (Or.inr (slot_ne (Or.inl (hw _ (List.mem_of_getElem? (i := 72) rfl))) (Or.inl (hw _ (List.mem_of_getElem? (i := 110) rfl))) (by decide) (t := .long) (t' := .long) (by decide) (by decide)))
            replace G_matchedBrackets := Fld.other W21 G_matchedBrackets (Or.inr (slot_ne (Or.inl (hw _ (List.mem_of_getElem? (i := 79) rfl))) (Or.inl (hw _ (List.mem_of_getElem? (i := 110) rfl))) (by decide) (t := .long) (t' := .long) (by decide) (by decide)))
            replace G_crossingBrackets := Fld.other W21 G_crossingBrackets (Or.inr (slot_ne (Or.inl (hw _ (List.mem_of_getElem? (i := 86) rfl))) (Or.inl (hw _ (List.mem_of_getElem? (i := 110) rfl))) (by decide) (t := .long) (t' := .long) (by decide) (by decide)))
            replace G_completeMatches := Fld.other W21 G_completeMatches (Or.inr (slot_ne (Or.inl (hw _ (List.mem_of_getElem? (i := 130) rfl))) (Or.inl (hw _ (List.mem_of_getElem? (i := 110) rfl))) (by decide) (t := .int) (t' := .long) (by decide) (by decide)))
            replace G_withoutCrossing := Fld.other W21 G_withoutCrossing (Or.inr (slot_ne (Or.inl (hw _ (List.mem_of_getElem? (i := 99) rfl))) (Or.inl (hw _ (List.mem_of_getElem? (i := 110) rfl))) (by decide) (t := .int) (t' := .long) (by decide) (by decide)))
            replace G_withTwoOrLessCrossing := Fld.other W21 G_withTwoOrLessCrossing (Or.inr (slot_ne (Or.inl (hw _ (List.mem_of_getElem? (i := 101) rfl))) (Or.inl (hw _ (List.mem_of_getElem? (i := 110) rfl))) (by decide) (t := .int) (t' := .long) (by decide) (by decide)))
            replace G_words := Fld.other W21 G_words (Or.inr (slot_ne (Or.inl (hw _ (List.mem_of_getElem? (i := 103) rfl))) (Or.inl (hw _ (List.mem_of_getElem? (i := 110) rfl))) (by decide) (t := .long) (t' := .long) (by decide) (by decide)))
            replace F_status := Fld.other W21 F_status (Or.inl (Ne.symm hne))
            replace F_goldBrackets := Fld.other W21 F_goldBrackets (Or.inl (Ne.symm hne))
            replace F_parsedBrackets := Fld.other W21 F_parsedBrackets (Or.inl (Ne.symm hne))
            replace F_matchedBrackets := Fld.other W21 F_matchedBrackets (Or.inl (Ne.symm hne))
            replace F_crossingBrackets := Fld.other W21 F_crossingBrackets (Or.inl (Ne.symm hne))
            replace F_words := Fld.other W21 F_words (Or.inl (Ne.symm hne))
            replace F_correctTags := Fld.other W21 F_correctTags (Or.inl (Ne.symm hne))
            replace G_correctTags := Fld.same W21 G_correctTags
            have K := Keep.wr K W21 (Or.inl (by simp))
            refine retV P d6_188 (by decide) (by decide) ?_
            refine ⟨rfl, K, fun q => ?_, fun _ => ⟨E_a, ⟨_, _, _, _, _, _, _, _, _, _, G_sentences, G_errors, G_skipped, G_goldBrackets, G_crossingBrackets, G_completeMatches, G_withoutCrossing, G_withTwoOrLessCrossing, G_words, G_correctTags⟩, G_parsedBrackets, G_matchedBrackets⟩⟩
            rcases q with q | q
            · exact absurd (congrArg Value.ref q) hc17
            · exact absurd (congrArg Value.ref q) hc38
        · -- pc 129 not taken
          replace hc129 : u5.toInt = (0 : Int) := hc129
          refine aloadN P d6_132 rfl rfl (n := 133) rfl ?_
          refine dup P d6_133 rfl (n := 134) rfl ?_
          refine getF P d6_134 (hw _ (List.mem_of_getElem? (i := 98) rfl)) G_withoutCrossing (n := 137) rfl ?_
          intro T P
          refine iconst P d6_137 (x := (1 : Int32)) rfl (n := 138) rfl ?_
          refine iadd P d6_138 (n := 139) rfl ?_
          refine putF P d6_139 (hw _ (List.mem_of_getElem? (i := 98) rfl)) G_withoutCrossing E_a (Or.inl (hw _ (List.mem_of_getElem? (i := 99) rfl))) (hw _ (List.mem_of_getElem? (i := 42) rfl)) (ty := .int) (by decide) rfl rfl lo (n := 142) rfl ?_
          intro T h22 P W23
          replace S_v := Sta.wr W23 S_v
          replace S_e := Sta.wr W23 S_e
          replace S_k := Sta.wr W23 S_k
          replace E_a := Exa.wr W23 E_a
          replace E_b := Exa.wr W23 E_b
          replace G_sentences := Fld.other W23 G_sentences (Or.inr (slot_ne (Or.inl (hw _ (List.mem_of_getElem? (i := 54) rfl))) (Or.inl (hw _ (List.mem_of_getElem? (i := 99) rfl))) (by decide) (t := .int) (t' := .int) (by decide) (by decide)))
          replace G_errors := Fld.other W23 G_errors (Or.inr (slot_ne (Or.inl (hw _ (List.mem_of_getElem? (i := 128) rfl))) (Or.inl (hw _ (List.mem_of_getElem? (i := 99) rfl))) (by decide) (t := .int) (t' := .int) (by decide) (by decide)))
          replace G_skipped := Fld.other W23 G_skipped (Or.inr (slot_ne (Or.inl (hw _ (List.mem_of_getElem? (i := 125) rfl))) (Or.inl (hw _ (List.mem_of_getElem? (i := 99) rfl))) (by decide) (t := .int) (t' := .int) (by decide) (by decide)))
          replace G_goldBrackets := Fld.other W23 G_goldBrackets (Or.inr (slot_ne (Or.inl (hw _ (List.mem_of_getElem? (i := 65) rfl))) (Or.inl (hw _ (List.mem_of_getElem? (i := 99) rfl))) (by decide) (t := .long) (t' := .int) (by decide) (by decide)))
          replace G_parsedBrackets := Fld.other W23 G_parsedBrackets (Or.inr (slot_ne (Or.inl (hw _ (List.mem_of_getElem? (i := 72) rfl))) (Or.inl (hw _ (List.mem_of_getElem? (i := 99) rfl))) (by decide) (t := .long) (t' := .int) (by decide) (by decide)))
          replace G_matchedBrackets := Fld.other W23 G_matchedBrackets (Or.inr (slot_ne (Or.inl (hw _ (List.mem_of_getElem? (i := 79) rfl))) (Or.inl (hw _ (List.mem_of_getElem? (i := 99) rfl))) (by decide) (t := .long) (t' := .int) (by decide) (by decide)))
          replace G_crossingBrackets := Fld.other W23 G_crossingBrackets (Or.inr (slot_ne (Or.inl (hw _ (List.mem_of_getElem? (i := 86) rfl))) (Or.inl (hw _ (List.mem_of_getElem? (i := 99) rfl))) (by decide) (t := .long) (t' := .int) (by decide) (by decide)))
          replace G_completeMatches := Fld.other W23 G_completeMatches (Or.inr (slot_ne (Or.inl (hw _ (List.mem_of_getElem? (i := 130) rfl))) (Or.inl (hw _ (List.mem_of_getElem? (i := 99) rfl))) (by decide) (t := .int) (t' := .int) (by decide) (by decide)))
          replace G_withTwoOrLessCrossing := Fld.other W23 G_withTwoOrLessCrossing (Or.inr (slot_ne (Or.inl (hw _ (List.mem_of_getElem? (i := 101) rfl))) (Or.inl (hw _ (List.mem_of_getElem? (i := 99) rfl))) (by decide) (t := .int) (t' := .int) (by decide) (by decide)))
          replace G_words := Fld.other W23 G_words (Or.inr (slot_ne (Or.inl (hw _ (List.mem_of_getElem? (i := 103) rfl))) (Or.inl (hw _ (List.mem_of_getElem? (i := 99) rfl))) (by decide) (t := .long) (t' := .int) (by decide) (by decide)))
          replace G_correctTags := Fld.other W23 G_correctTags (Or.inr (slot_ne (Or.inl (hw _ (List.mem_of_getElem? (i := 110) rfl))) (Or.inl (hw _ (List.mem_of_getElem? (i := 99) rfl))) (by decide) (t := .long) (t' := .int) (by decide) (by decide)))
          replace F_status := Fld.other W23 F_status (Or.inl (Ne.symm hne))
          replace F_goldBrackets := Fld.other W23 F_goldBrackets (Or.inl (Ne.symm hne))
          replace F_parsedBrackets := Fld.other W23 F_parsedBrackets (Or.inl (Ne.symm hne))
          replace F_matchedBrackets := Fld.other W23 F_matchedBrackets (Or.inl (Ne.symm hne))
          replace F_crossingBrackets := Fld.other W23 F_crossingBrackets (Or.inl (Ne.symm hne))
          replace F_words := Fld.other W23 F_words (Or.inl (Ne.symm hne))
          replace F_correctTags := Fld.other W23 F_correctTags (Or.inl (Ne.symm hne))
          replace G_withoutCrossing := Fld.same W23 G_withoutCrossing
          have K := Keep.wr K W23 (Or.inl (by simp))
          refine aloadN P d6_142 rfl rfl (n := 143) rfl ?_
          refine callV P d6_143 (a := b) (argsL := []) (rest := []) (c_crossingBrackets l Z a0 hw b u5 h22 n0 P.low F_crossingBrackets) E_b (hw _ (List.mem_of_getElem? (i := 87) rfl)) (hw _ (List.mem_of_getElem? (i := 88) rfl)) (notFace_of_selects (args := #[]) (mvT P.hZ (hw _ (List.mem_of_getElem? (i := 90) rfl)))) (hw _ (List.mem_of_getElem? (i := 90) rfl)) (hw _ (List.mem_of_getElem? (i := 89) rfl)) (hw _ (List.mem_of_getElem? (i := 11) rfl)) (hw _ (List.mem_of_getElem? (i := 91) rfl)) (by decide) pd_2 rfl rfl rfl ⟨by decide, Nat.le_of_ble_eq_true rfl, by decide, by decide⟩ (n := 146) rfl (Ret.on ?_)
          intro T P
          refine iconst P d6_146 (x := (2 : Int32)) rfl (n := 147) rfl ?_
          refine icmp_gt P d6_147 (n' := 160) (n := 150) (by decide) rfl (fun hc147 => ?_) (fun hc147 => ?_)
          · -- pc 147 taken
            replace hc147 : (2 : Int) < u5.toInt := hc147
            refine aloadN P d6_160 rfl rfl (n := 161) rfl ?_
            refine dup P d6_161 rfl (n := 162) rfl ?_
            refine getF P d6_162 (hw _ (List.mem_of_getElem? (i := 102) rfl)) G_words (n := 165) rfl ?_
            intro T P
            refine aloadN P d6_165 rfl rfl (n := 166) rfl ?_
            refine callV P d6_166 (a := b) (argsL := []) (rest := [(.long t10), (.ref a)]) (c_words l Z a0 hw b u6 h22 n0 P.low F_words) E_b (hw _ (List.mem_of_getElem? (i := 104) rfl)) (hw _ (List.mem_of_getElem? (i := 105) rfl)) (notFace_of_selects (args := #[]) (mvT P.hZ (hw _ (List.mem_of_getElem? (i := 107) rfl)))) (hw _ (List.mem_of_getElem? (i := 107) rfl)) (hw _ (List.mem_of_getElem? (i := 106) rfl)) (hw _ (List.mem_of_getElem? (i := 11) rfl)) (hw _ (List.mem_of_getElem? (i := 108) rfl)) (by decide) pd_2 rfl rfl rfl ⟨by decide, Nat.le_of_ble_eq_true rfl, by decide, by decide⟩ (n := 169) rfl (Ret.on ?_)
            intro T P
            refine i2l P d6_169 (n := 170) rfl ?_
            refine ladd P d6_170 (n := 171) rfl ?_
            refine putF P d6_171 (hw _ (List.mem_of_getElem? (i := 102) rfl)) G_words E_a (Or.inl (hw _ (List.mem_of_getElem? (i := 103) rfl))) (hw _ (List.mem_of_getElem? (i := 42) rfl)) (ty := .long) (by decide) rfl rfl lo (n := 174) rfl ?_
            intro T h24 P W25
            replace S_v := Sta.wr W25 S_v
            replace S_e := Sta.wr W25 S_e
            replace S_k := Sta.wr W25 S_k
            replace E_a := Exa.wr W25 E_a
            replace E_b := Exa.wr W25 E_b
            replace G_sentences := Fld.other W25 G_sentences (Or.inr (slot_ne (Or.inl (hw _ (List.mem_of_getElem? (i := 54) rfl))) (Or.inl (hw _ (List.mem_of_getElem? (i := 103) rfl))) (by decide) (t := .int) (t' := .long) (by decide) (by decide)))
            replace G_errors := Fld.other W25 G_errors (Or.inr (slot_ne (Or.inl (hw _ (List.mem_of_getElem? (i := 128) rfl))) (Or.inl (hw _ (List.mem_of_getElem? (i := 103) rfl))) (by decide) (t := .int) (t' := .long) (by decide) (by decide)))
            replace G_skipped := Fld.other W25 G_skipped (Or.inr (slot_ne (Or.inl (hw _ (List.mem_of_getElem? (i := 125) rfl))) (Or.inl (hw _ (List.mem_of_getElem? (i := 103) rfl))) (by decide) (t := .int) (t' := .long) (by decide) (by decide)))
            replace G_goldBrackets := Fld.other W25 G_goldBrackets (Or.inr (slot_ne (Or.inl (hw _ (List.mem_of_getElem? (i := 65) rfl))) (Or.inl (hw _ (List.mem_of_getElem? (i := 103) rfl))) (by decide) (t := .long) (t' := .long) (by decide) (by decide)))
            replace G_parsedBrackets := Fld.other W25 G_parsedBrackets (Or.inr (slot_ne (Or.inl (hw _ (List.mem_of_getElem? (i := 72) rfl))) (Or.inl (hw _ (List.mem_of_getElem? (i := 103) rfl))) (by decide) (t := .long) (t' := .long) (by decide) (by decide)))
            replace G_matchedBrackets := Fld.other W25 G_matchedBrackets (Or.inr (slot_ne (Or.inl (hw _ (List.mem_of_getElem? (i := 79) rfl))) (Or.inl (hw _ (List.mem_of_getElem? (i := 103) rfl))) (by decide) (t := .long) (t' := .long) (by decide) (by decide)))
            replace G_crossingBrackets := Fld.other W25 G_crossingBrackets (Or.inr (slot_ne (Or.inl (hw _ (List.mem_of_getElem? (i := 86) rfl))) (Or.inl (hw _ (List.mem_of_getElem? (i := 103) rfl))) (by decide) (t := .long) (t' := .long) (by decide) (by decide)))
            replace G_completeMatches := Fld.other W25 G_completeMatches (Or.inr (slot_ne (Or.inl (hw _ (List.mem_of_getElem? (i := 130) rfl))) (Or.inl (hw _ (List.mem_of_getElem? (i := 103) rfl))) (by decide) (t := .int) (t' := .long) (by decide) (by decide)))
            replace G_withoutCrossing := Fld.other W25 G_withoutCrossing (Or.inr (slot_ne (Or.inl (hw _ (List.mem_of_getElem? (i := 99) rfl))) (Or.inl (hw _ (List.mem_of_getElem? (i := 103) rfl))) (by decide) (t := .int) (t' := .long) (by decide) (by decide)))
            replace G_withTwoOrLessCrossing := Fld.other W25 G_withTwoOrLessCrossing (Or.inr (slot_ne (Or.inl (hw _ (List.mem_of_getElem? (i := 101) rfl))) (Or.inl (hw _ (List.mem_of_getElem? (i := 103) rfl))) (by decide) (t := .int) (t' := .long) (by decide) (by decide)))
            replace G_correctTags := Fld.other W25 G_correctTags (Or.inr (slot_ne (Or.inl (hw _ (List.mem_of_getElem? (i := 110) rfl))) (Or.inl (hw _ (List.mem_of_getElem? (i := 103) rfl))) (by decide) (t := .long) (t' := .long) (by decide) (by decide)))
            replace F_status := Fld.other W25 F_status (Or.inl (Ne.symm hne))
            replace F_goldBrackets := Fld.other W25 F_goldBrackets (Or.inl (Ne.symm hne))
            replace F_parsedBrackets := Fld.other W25 F_parsedBrackets (Or.inl (Ne.symm hne))
            replace F_matchedBrackets := Fld.other W25 F_matchedBrackets (Or.inl (Ne.symm hne))
            replace F_crossingBrackets := Fld.other W25 F_crossingBrackets (Or.inl (Ne.symm hne))
            replace F_words := Fld.other W25 F_words (Or.inl (Ne.symm hne))
            replace F_correctTags := Fld.other W25 F_correctTags (Or.inl (Ne.symm hne))
            replace G_words := Fld.same W25 G_words
            have K := Keep.wr K W25 (Or.inl (by simp))
            refine aloadN P d6_174 rfl rfl (n := 175) rfl ?_
            refine dup P d6_175 rfl (n := 176) rfl ?_
            refine getF P d6_176 (hw _ (List.mem_of_getElem? (i := 109) rfl)) G_correctTags (n := 179) rfl ?_
            intro T P
            refine aloadN P d6_179 rfl rfl (n := 180) rfl ?_
            refine callV P d6_180 (a := b) (argsL := []) (rest := [(.long t11), (.ref a)]) (c_correctTags l Z a0 hw b u7 h24 n0 P.low F_correctTags) E_b (hw _ (List.mem_of_getElem? (i := 111) rfl)) (hw _ (List.mem_of_getElem? (i := 112) rfl)) (notFace_of_selects (args := #[]) (mvT P.hZ (hw _ (List.mem_of_getElem? (i := 114) rfl)))) (hw _ (List.mem_of_getElem? (i := 114) rfl)) (hw _ (List.mem_of_getElem? (i := 113) rfl)) (hw _ (List.mem_of_getElem? (i := 11) rfl)) (hw _ (List.mem_of_getElem? (i := 115) rfl)) (by decide) pd_2 rfl rfl rfl ⟨by decide, Nat.le_of_ble_eq_true rfl, by decide, by decide⟩ (n := 183) rfl (Ret.on ?_)
            intro T P
            refine i2l P d6_183 (n := 184) rfl ?_
            refine ladd P d6_184 (n := 185) rfl ?_
            refine putF P d6_185 (hw _ (List.mem_of_getElem? (i := 109) rfl)) G_correctTags E_a (Or.inl (hw _ (List.mem_of_getElem? (i := 110) rfl))) (hw _ (List.mem_of_getElem? (i := 42) rfl)) (ty := .long) (by decide) rfl rfl lo (n := 188) rfl ?_
            intro T h26 P W27
            replace S_v := Sta.wr W27 S_v
            replace S_e := Sta.wr W27 S_e
            replace S_k := Sta.wr W27 S_k
            replace E_a := Exa.wr W27 E_a
            replace E_b := Exa.wr W27 E_b
            replace G_sentences := Fld.other W27 G_sentences (Or.inr (slot_ne (Or.inl (hw _ (List.mem_of_getElem? (i := 54) rfl))) (Or.inl (hw _ (List.mem_of_getElem? (i := 110) rfl))) (by decide) (t := .int) (t' := .long) (by decide) (by decide)))
            replace G_errors := Fld.other W27 G_errors (Or.inr (slot_ne (Or.inl (hw _ (List.mem_of_getElem? (i := 128) rfl))) (Or.inl (hw _ (List.mem_of_getElem? (i := 110) rfl))) (by decide) (t := .int) (t' := .long) (by decide) (by decide)))
            replace G_skipped := Fld.other W27 G_skipped (Or.inr (slot_ne (Or.inl (hw _ (List.mem_of_getElem? (i := 125) rfl))) (Or.inl (hw _ (List.mem_of_getElem? (i := 110) rfl))) (by decide) (t := .int) (t' := .long) (by decide) (by decide)))
            replace G_goldBrackets := Fld.other W27 G_goldBrackets (Or.inr (slot_ne (Or.inl (hw _ (List.mem_of_getElem? (i := 65) rfl))) (Or.inl (hw _ (List.mem_of_getElem? (i := 110) rfl))) (by decide) (t := .long) (t' := .long) (by decide) (by decide)))
            replace G_parsedBrackets := Fld.other W27 G_parsedBrackets (Or.inr (slot_ne (Or.inl (hw _ (List.mem_of_getElem? (i := 72) rfl))) (Or.inl (hw _ (List.mem_of_getElem? (i := 110) rfl))) (by decide) (t := .long) (t' := .long) (by decide) (by decide)))
            replace G_matchedBrackets := Fld.other W27 G_matchedBrackets (Or.inr (slot_ne (Or.inl (hw _ (List.mem_of_getElem? (i := 79) rfl))) (Or.inl (hw _ (List.mem_of_getElem? (i := 110) rfl))) (by decide) (t := .long) (t' := .long) (by decide) (by decide)))
            replace G_crossingBrackets := Fld.other W27 G_crossingBrackets (Or.inr (slot_ne (Or.inl (hw _ (List.mem_of_getElem? (i := 86) rfl))) (Or.inl (hw _ (List.mem_of_getElem? (i := 110) rfl))) (by decide) (t := .long) (t' := .long) (by decide) (by decide)))
            replace G_completeMatches := Fld.other W27 G_completeMatches (Or.inr (slot_ne (Or.inl (hw _ (List.mem_of_getElem? (i := 130) rfl))) (Or.inl (hw _ (List.mem_of_getElem? (i := 110) rfl))) (by decide) (t := .int) (t' := .long) (by decide) (by decide)))
            replace G_withoutCrossing := Fld.other W27 G_withoutCrossing (Or.inr (slot_ne (Or.inl (hw _ (List.mem_of_getElem? (i := 99) rfl))) (Or.inl (hw _ (List.mem_of_getElem? (i := 110) rfl))) (by decide) (t := .int) (t' := .long) (by decide) (by decide)))
            replace G_withTwoOrLessCrossing := Fld.other W27 G_withTwoOrLessCrossing (Or.inr (slot_ne (Or.inl (hw _ (List.mem_of_getElem? (i := 101) rfl))) (Or.inl (hw _ (List.mem_of_getElem? (i := 110) rfl))) (by decide) (t := .int) (t' := .long) (by decide) (by decide)))
            replace G_words := Fld.other W27 G_words (Or.inr (slot_ne (Or.inl (hw _ (List.mem_of_getElem? (i := 103) rfl))) (Or.inl (hw _ (List.mem_of_getElem? (i := 110) rfl))) (by decide) (t := .long) (t' := .long) (by decide) (by decide)))
            replace F_status := Fld.other W27 F_status (Or.inl (Ne.symm hne))
            replace F_goldBrackets := Fld.other W27 F_goldBrackets (Or.inl (Ne.symm hne))
            replace F_parsedBrackets := Fld.other W27 F_parsedBrackets (Or.inl (Ne.symm hne))
            replace F_matchedBrackets := Fld.other W27 F_matchedBrackets (Or.inl (Ne.symm hne))
            replace F_crossingBrackets := Fld.other W27 F_crossingBrackets (Or.inl (Ne.symm hne))
            replace F_words := Fld.other W27 F_words (Or.inl (Ne.symm hne))
            replace F_correctTags := Fld.other W27 F_correctTags (Or.inl (Ne.symm hne))
            replace G_correctTags := Fld.same W27 G_correctTags
            have K := Keep.wr K W27 (Or.inl (by simp))
            refine retV P d6_188 (by decide) (by decide) ?_
            refine ⟨rfl, K, fun q => ?_, fun _ => ⟨E_a, ⟨_, _, _, _, _, _, _, _, _, _, G_sentences, G_errors, G_skipped, G_goldBrackets, G_crossingBrackets, G_completeMatches, G_withoutCrossing, G_withTwoOrLessCrossing, G_words, G_correctTags⟩, G_parsedBrackets, G_matchedBrackets⟩⟩
            rcases q with q | q
            · exact absurd (congrArg Value.ref q) hc17
            · exact absurd (congrArg Value.ref q) hc38
          · -- pc 147 not taken
            replace hc147 : u5.toInt ≤ (2 : Int) := hc147
            refine aloadN P d6_150 rfl rfl (n := 151) rfl ?_
            refine dup P d6_151 rfl (n := 152) rfl ?_
            refine getF P d6_152 (hw _ (List.mem_of_getElem? (i := 100) rfl)) G_withTwoOrLessCrossing (n := 155) rfl ?_
            intro T P
            refine iconst P d6_155 (x := (1 : Int32)) rfl (n := 156) rfl ?_
            refine iadd P d6_156 (n := 157) rfl ?_
            refine putF P d6_157 (hw _ (List.mem_of_getElem? (i := 100) rfl)) G_withTwoOrLessCrossing E_a (Or.inl (hw _ (List.mem_of_getElem? (i := 101) rfl))) (hw _ (List.mem_of_getElem? (i := 42) rfl)) (ty := .int) (by decide) rfl rfl lo (n := 160) rfl ?_
            intro T h28 P W29
            replace S_v := Sta.wr W29 S_v
            replace S_e := Sta.wr W29 S_e
            replace S_k := Sta.wr W29 S_k
            replace E_a := Exa.wr W29 E_a
            replace E_b := Exa.wr W29 E_b
            replace G_sentences := Fld.other W29 G_sentences (Or.inr (slot_ne (Or.inl (hw _ (List.mem_of_getElem? (i := 54) rfl))) (Or.inl (hw _ (List.mem_of_getElem? (i := 101) rfl))) (by decide) (t := .int) (t' := .int) (by decide) (by decide)))
            replace G_errors := Fld.other W29 G_errors (Or.inr (slot_ne (Or.inl (hw _ (List.mem_of_getElem? (i := 128) rfl))) (Or.inl (hw _ (List.mem_of_getElem? (i := 101) rfl))) (by decide) (t := .int) (t' := .int) (by decide) (by decide)))
            replace G_skipped := Fld.other W29 G_skipped (Or.inr (slot_ne (Or.inl (hw _ (List.mem_of_getElem? (i := 125) rfl))) (Or.inl (hw _ (List.mem_of_getElem? (i := 101) rfl))) (by decide) (t := .int) (t' := .int) (by decide) (by decide)))
            replace G_goldBrackets := Fld.other W29 G_goldBrackets (Or.inr (slot_ne (Or.inl (hw _ (List.mem_of_getElem? (i := 65) rfl))) (Or.inl (hw _ (List.mem_of_getElem? (i := 101) rfl))) (by decide) (t := .long) (t' := .int) (by decide) (by decide)))
            replace G_parsedBrackets := Fld.other W29 G_parsedBrackets (Or.inr (slot_ne (Or.inl (hw _ (List.mem_of_getElem? (i := 72) rfl))) (Or.inl (hw _ (List.mem_of_getElem? (i := 101) rfl))) (by decide) (t := .long) (t' := .int) (by decide) (by decide)))
            replace G_matchedBrackets := Fld.other W29 G_matchedBrackets (Or.inr (slot_ne (Or.inl (hw _ (List.mem_of_getElem? (i := 79) rfl))) (Or.inl (hw _ (List.mem_of_getElem? (i := 101) rfl))) (by decide) (t := .long) (t' := .int) (by decide) (by decide)))
            replace G_crossingBrackets := Fld.other W29 G_crossingBrackets (Or.inr (slot_ne (Or.inl (hw _ (List.mem_of_getElem? (i := 86) rfl))) (Or.inl (hw _ (List.mem_of_getElem? (i := 101) rfl))) (by decide) (t := .long) (t' := .int) (by decide) (by decide)))
            replace G_completeMatches := Fld.other W29 G_completeMatches (Or.inr (slot_ne (Or.inl (hw _ (List.mem_of_getElem? (i := 130) rfl))) (Or.inl (hw _ (List.mem_of_getElem? (i := 101) rfl))) (by decide) (t := .int) (t' := .int) (by decide) (by decide)))
            replace G_withoutCrossing := Fld.other W29 G_withoutCrossing (Or.inr (slot_ne (Or.inl (hw _ (List.mem_of_getElem? (i := 99) rfl))) (Or.inl (hw _ (List.mem_of_getElem? (i := 101) rfl))) (by decide) (t := .int) (t' := .int) (by decide) (by decide)))
            replace G_words := Fld.other W29 G_words (Or.inr (slot_ne (Or.inl (hw _ (List.mem_of_getElem? (i := 103) rfl))) (Or.inl (hw _ (List.mem_of_getElem? (i := 101) rfl))) (by decide) (t := .long) (t' := .int) (by decide) (by decide)))
            replace G_correctTags := Fld.other W29 G_correctTags (Or.inr (slot_ne (Or.inl (hw _ (List.mem_of_getElem? (i := 110) rfl))) (Or.inl (hw _ (List.mem_of_getElem? (i := 101) rfl))) (by decide) (t := .long) (t' := .int) (by decide) (by decide)))
            replace F_status := Fld.other W29 F_status (Or.inl (Ne.symm hne))
            replace F_goldBrackets := Fld.other W29 F_goldBrackets (Or.inl (Ne.symm hne))
            replace F_parsedBrackets := Fld.other W29 F_parsedBrackets (Or.inl (Ne.symm hne))
            replace F_matchedBrackets := Fld.other W29 F_matchedBrackets (Or.inl (Ne.symm hne))
            replace F_crossingBrackets := Fld.other W29 F_crossingBrackets (Or.inl (Ne.symm hne))
            replace F_words := Fld.other W29 F_words (Or.inl (Ne.symm hne))
            replace F_correctTags := Fld.other W29 F_correctTags (Or.inl (Ne.symm hne))
            replace G_withTwoOrLessCrossing := Fld.same W29 G_withTwoOrLessCrossing
            have K := Keep.wr K W29 (Or.inl (by simp))
            refine aloadN P d6_160 rfl rfl (n := 161) rfl ?_
            refine dup P d6_161 rfl (n := 162) rfl ?_
            refine getF P d6_162 (hw _ (List.mem_of_getElem? (i := 102) rfl)) G_words (n := 165) rfl ?_
            intro T P
            refine aloadN P d6_165 rfl rfl (n := 166) rfl ?_
            refine callV P d6_166 (a := b) (argsL := []) (rest := [(.long t10), (.ref a)]) (c_words l Z a0 hw b u6 h28 n0 P.low F_words) E_b (hw _ (List.mem_of_getElem? (i := 104) rfl)) (hw _ (List.mem_of_getElem? (i := 105) rfl)) (notFace_of_selects (args := #[]) (mvT P.hZ (hw _ (List.mem_of_getElem? (i := 107) rfl)))) (hw _ (List.mem_of_getElem? (i := 107) rfl)) (hw _ (List.mem_of_getElem? (i := 106) rfl)) (hw _ (List.mem_of_getElem? (i := 11) rfl)) (hw _ (List.mem_of_getElem? (i := 108) rfl)) (by decide) pd_2 rfl rfl rfl ⟨by decide, Nat.le_of_ble_eq_true rfl, by decide, by decide⟩ (n := 169) rfl (Ret.on ?_)
            intro T P
            refine i2l P d6_169 (n := 170) rfl ?_
            refine ladd P d6_170 (n := 171) rfl ?_
            refine putF P d6_171 (hw _ (List.mem_of_getElem? (i := 102) rfl)) G_words E_a (Or.inl (hw _ (List.mem_of_getElem? (i := 103) rfl))) (hw _ (List.mem_of_getElem? (i := 42) rfl)) (ty := .long) (by decide) rfl rfl lo (n := 174) rfl ?_
            intro T h30 P W31
            replace S_v := Sta.wr W31 S_v
            replace S_e := Sta.wr W31 S_e
            replace S_k := Sta.wr W31 S_k
            replace E_a := Exa.wr W31 E_a
            replace E_b := Exa.wr W31 E_b
            replace G_sentences := Fld.other W31 G_sentences (Or.inr (slot_ne (Or.inl (hw _ (List.mem_of_getElem? (i := 54) rfl))) (Or.inl (hw _ (List.mem_of_getElem? (i := 103) rfl))) (by decide) (t := .int) (t' := .long) (by decide) (by decide)))
            replace G_errors := Fld.other W31 G_errors (Or.inr (slot_ne (Or.inl (hw _ (List.mem_of_getElem? (i := 128) rfl))) (Or.inl (hw _ (List.mem_of_getElem? (i := 103) rfl))) (by decide) (t := .int) (t' := .long) (by decide) (by decide)))
            replace G_skipped := Fld.other W31 G_skipped (Or.inr (slot_ne (Or.inl (hw _ (List.mem_of_getElem? (i := 125) rfl))) (Or.inl (hw _ (List.mem_of_getElem? (i := 103) rfl))) (by decide) (t := .int) (t' := .long) (by decide) (by decide)))
            replace G_goldBrackets := Fld.other W31 G_goldBrackets (Or.inr (slot_ne (Or.inl (hw _ (List.mem_of_getElem? (i := 65) rfl))) (Or.inl (hw _ (List.mem_of_getElem? (i := 103) rfl))) (by decide) (t := .long) (t' := .long) (by decide) (by decide)))
            replace G_parsedBrackets := Fld.other W31 G_parsedBrackets (Or.inr (slot_ne (Or.inl (hw _ (List.mem_of_getElem? (i := 72) rfl))) (Or.inl (hw _ (List.mem_of_getElem? (i := 103) rfl))) (by decide) (t := .long) (t' := .long) (by decide) (by decide)))
            replace G_matchedBrackets := Fld.other W31 G_matchedBrackets (Or.inr (slot_ne (Or.inl (hw _ (List.mem_of_getElem? (i := 79) rfl))) (Or.inl (hw _ (List.mem_of_getElem? (i := 103) rfl))) (by decide) (t := .long) (t' := .long) (by decide) (by decide)))
            replace G_crossingBrackets := Fld.other W31 G_crossingBrackets (Or.inr (slot_ne (Or.inl (hw _ (List.mem_of_getElem? (i := 86) rfl))) (Or.inl (hw _ (List.mem_of_getElem? (i := 103) rfl))) (by decide) (t := .long) (t' := .long) (by decide) (by decide)))
            replace G_completeMatches := Fld.other W31 G_completeMatches (Or.inr (slot_ne (Or.inl (hw _ (List.mem_of_getElem? (i := 130) rfl))) (Or.inl (hw _ (List.mem_of_getElem? (i := 103) rfl))) (by decide) (t := .int) (t' := .long) (by decide) (by decide)))
            replace G_withoutCrossing := Fld.other W31 G_withoutCrossing (Or.inr (slot_ne (Or.inl (hw _ (List.mem_of_getElem? (i := 99) rfl))) (Or.inl (hw _ (List.mem_of_getElem? (i := 103) rfl))) (by decide) (t := .int) (t' := .long) (by decide) (by decide)))
            replace G_withTwoOrLessCrossing := Fld.other W31 G_withTwoOrLessCrossing (Or.inr (slot_ne (Or.inl (hw _ (List.mem_of_getElem? (i := 101) rfl))) (Or.inl (hw _ (List.mem_of_getElem? (i := 103) rfl))) (by decide) (t := .int) (t' := .long) (by decide) (by decide)))
            replace G_correctTags := Fld.other W31 G_correctTags (Or.inr (slot_ne (Or.inl (hw _ (List.mem_of_getElem? (i := 110) rfl))) (Or.inl (hw _ (List.mem_of_getElem? (i := 103) rfl))) (by decide) (t := .long) (t' := .long) (by decide) (by decide)))
            replace F_status := Fld.other W31 F_status (Or.inl (Ne.symm hne))
            replace F_goldBrackets := Fld.other W31 F_goldBrackets (Or.inl (Ne.symm hne))
            replace F_parsedBrackets := Fld.other W31 F_parsedBrackets (Or.inl (Ne.symm hne))
            replace F_matchedBrackets := Fld.other W31 F_matchedBrackets (Or.inl (Ne.symm hne))
            replace F_crossingBrackets := Fld.other W31 F_crossingBrackets (Or.inl (Ne.symm hne))
            replace F_words := Fld.other W31 F_words (Or.inl (Ne.symm hne))
            replace F_correctTags := Fld.other W31 F_correctTags (Or.inl (Ne.symm hne))
            replace G_words := Fld.same W31 G_words
            have K := Keep.wr K W31 (Or.inl (by simp))
            refine aloadN P d6_174 rfl rfl (n := 175) rfl ?_
            refine dup P d6_175 rfl (n := 176) rfl ?_
            refine getF P d6_176 (hw _ (List.mem_of_getElem? (i := 109) rfl)) G_correctTags (n := 179) rfl ?_
            intro T P
            refine aloadN P d6_179 rfl rfl (n := 180) rfl ?_
            refine callV P d6_180 (a := b) (argsL := []) (rest := [(.long t11), (.ref a)]) (c_correctTags l Z a0 hw b u7 h30 n0 P.low F_correctTags) E_b (hw _ (List.mem_of_getElem? (i := 111) rfl)) (hw _ (List.mem_of_getElem? (i := 112) rfl)) (notFace_of_selects (args := #[]) (mvT P.hZ (hw _ (List.mem_of_getElem? (i := 114) rfl)))) (hw _ (List.mem_of_getElem? (i := 114) rfl)) (hw _ (List.mem_of_getElem? (i := 113) rfl)) (hw _ (List.mem_of_getElem? (i := 11) rfl)) (hw _ (List.mem_of_getElem? (i := 115) rfl)) (by decide) pd_2 rfl rfl rfl ⟨by decide, Nat.le_of_ble_eq_true rfl, by decide, by decide⟩ (n := 183) rfl (Ret.on ?_)
            intro T P
            refine i2l P d6_183 (n := 184) rfl ?_
            refine ladd P d6_184 (n := 185) rfl ?_
            refine putF P d6_185 (hw _ (List.mem_of_getElem? (i := 109) rfl)) G_correctTags E_a (Or.inl (hw _ (List.mem_of_getElem? (i := 110) rfl))) (hw _ (List.mem_of_getElem? (i := 42) rfl)) (ty := .long) (by decide) rfl rfl lo (n := 188) rfl ?_
            intro T h32 P W33
            replace S_v := Sta.wr W33 S_v
            replace S_e := Sta.wr W33 S_e
            replace S_k := Sta.wr W33 S_k
            replace E_a := Exa.wr W33 E_a
            replace E_b := Exa.wr W33 E_b
            replace G_sentences := Fld.other W33 G_sentences (Or.inr (slot_ne (Or.inl (hw _ (List.mem_of_getElem? (i := 54) rfl))) (Or.inl (hw _ (List.mem_of_getElem? (i := 110) rfl))) (by decide) (t := .int) (t' := .long) (by decide) (by decide)))
            replace G_errors := Fld.other W33 G_errors (Or.inr (slot_ne (Or.inl (hw _ (List.mem_of_getElem? (i := 128) rfl))) (Or.inl (hw _ (List.mem_of_getElem? (i := 110) rfl))) (by decide) (t := .int) (t' := .long) (by decide) (by decide)))
            replace G_skipped := Fld.other W33 G_skipped (Or.inr (slot_ne (Or.inl (hw _ (List.mem_of_getElem? (i := 125) rfl))) (Or.inl (hw _ (List.mem_of_getElem? (i := 110) rfl))) (by decide) (t := .int) (t' := .long) (by decide) (by decide)))
            replace G_goldBrackets := Fld.other W33 G_goldBrackets (Or.inr (slot_ne (Or.inl (hw _ (List.mem_of_getElem? (i := 65) rfl))) (Or.inl (hw _ (List.mem_of_getElem? (i := 110) rfl))) (by decide) (t := .long) (t' := .long) (by decide) (by decide)))
            replace G_parsedBrackets := Fld.other W33 G_parsedBrackets (Or.inr (slot_ne (Or.inl (hw _ (List.mem_of_getElem? (i := 72) rfl))) (Or.inl (hw _ (List.mem_of_getElem? (i := 110) rfl))) (by decide) (t := .long) (t' := .long) (by decide) (by decide)))
            replace G_matchedBrackets := Fld.other W33 G_matchedBrackets (Or.inr (slot_ne (Or.inl (hw _ (List.mem_of_getElem? (i := 79) rfl))) (Or.inl (hw _ (List.mem_of_getElem? (i := 110) rfl))) (by decide) (t := .long) (t' := .long) (by decide) (by decide)))
            replace G_crossingBrackets := Fld.other W33 G_crossingBrackets (Or.inr (slot_ne (Or.inl (hw _ (List.mem_of_getElem? (i := 86) rfl))) (Or.inl (hw _ (List.mem_of_getElem? (i := 110) rfl))) (by decide) (t := .long) (t' := .long) (by decide) (by decide)))
            replace G_completeMatches := Fld.other W33 G_completeMatches (Or.inr (slot_ne (Or.inl (hw _ (List.mem_of_getElem? (i := 130) rfl))) (Or.inl (hw _ (List.mem_of_getElem? (i := 110) rfl))) (by decide) (t := .int) (t' := .long) (by decide) (by decide)))
            replace G_withoutCrossing := Fld.other W33 G_withoutCrossing (Or.inr (slot_ne (Or.inl (hw _ (List.mem_of_getElem? (i := 99) rfl))) (Or.inl (hw _ (List.mem_of_getElem? (i := 110) rfl))) (by decide) (t := .int) (t' := .long) (by decide) (by decide)))
            replace G_withTwoOrLessCrossing := Fld.other W33 G_withTwoOrLessCrossing (Or.inr (slot_ne (Or.inl (hw _ (List.mem_of_getElem? (i := 101) rfl))) (Or.inl (hw _ (List.mem_of_getElem? (i := 110) rfl))) (by decide) (t := .int) (t' := .long) (by decide) (by decide)))
            replace G_words := Fld.other W33 G_words (Or.inr (slot_ne (Or.inl (hw _ (List.mem_of_getElem? (i := 103) rfl))) (Or.inl (hw _ (List.mem_of_getElem? (i := 110) rfl))) (by decide) (t := .long) (t' := .long) (by decide) (by decide)))
            replace F_status := Fld.other W33 F_status (Or.inl (Ne.symm hne))
            replace F_goldBrackets := Fld.other W33 F_goldBrackets (Or.inl (Ne.symm hne))
            replace F_parsedBrackets := Fld.other W33 F_parsedBrackets (Or.inl (Ne.symm hne))
            replace F_matchedBrackets := Fld.other W33 F_matchedBrackets (Or.inl (Ne.symm hne))
            replace F_crossingBrackets := Fld.other W33 F_crossingBrackets (Or.inl (Ne.symm hne))
            replace F_words := Fld.other W33 F_words (Or.inl (Ne.symm hne))
            replace F_correctTags := Fld.other W33 F_correctTags (Or.inl (Ne.symm hne))
            replace G_correctTags := Fld.same W33 G_correctTags
            have K := Keep.wr K W33 (Or.inl (by simp))
            refine retV P d6_188 (by decide) (by decide) ?_
            refine ⟨rfl, K, fun q => ?_, fun _ => ⟨E_a, ⟨_, _, _, _, _, _, _, _, _, _, G_sentences, G_errors, G_skipped, G_goldBrackets, G_crossingBrackets, G_completeMatches, G_withoutCrossing, G_withTwoOrLessCrossing, G_words, G_correctTags⟩, G_parsedBrackets, G_matchedBrackets⟩⟩
            rcases q with q | q
            · exact absurd (congrArg Value.ref q) hc17
            · exact absurd (congrArg Value.ref q) hc38
      · -- pc 112 not taken
        replace hc112 : ¬ r11.toInt = (0 : Int) := hc112
        refine aloadN P d6_115 rfl rfl (n := 116) rfl ?_
        refine dup P d6_116 rfl (n := 117) rfl ?_
        refine getF P d6_117 (hw _ (List.mem_of_getElem? (i := 129) rfl)) G_completeMatches (n := 120) rfl ?_
        intro T P
        refine iconst P d6_120 (x := (1 : Int32)) rfl (n := 121) rfl ?_
        refine iadd P d6_121 (n := 122) rfl ?_
        refine putF P d6_122 (hw _ (List.mem_of_getElem? (i := 129) rfl)) G_completeMatches E_a (Or.inl (hw _ (List.mem_of_getElem? (i := 130) rfl))) (hw _ (List.mem_of_getElem? (i := 42) rfl)) (ty := .int) (by decide) rfl rfl lo (n := 125) rfl ?_
        intro T h34 P W35
        replace S_v := Sta.wr W35 S_v
        replace S_e := Sta.wr W35 S_e
        replace S_k := Sta.wr W35 S_k
        replace E_a := Exa.wr W35 E_a
        replace E_b := Exa.wr W35 E_b
        replace G_sentences := Fld.other W35 G_sentences (Or.inr (slot_ne (Or.inl (hw _ (List.mem_of_getElem? (i := 54) rfl))) (Or.inl (hw _ (List.mem_of_getElem? (i := 130) rfl))) (by decide) (t := .int) (t' := .int) (by decide) (by decide)))
        replace G_errors := Fld.other W35 G_errors (Or.inr (slot_ne (Or.inl (hw _ (List.mem_of_getElem? (i := 128) rfl))) (Or.inl (hw _ (List.mem_of_getElem? (i := 130) rfl))) (by decide) (t := .int) (t' := .int) (by decide) (by decide)))
        replace G_skipped := Fld.other W35 G_skipped (Or.inr (slot_ne (Or.inl (hw _ (List.mem_of_getElem? (i := 125) rfl))) (Or.inl (hw _ (List.mem_of_getElem? (i := 130) rfl))) (by decide) (t := .int) (t' := .int) (by decide) (by decide)))
        replace G_goldBrackets := Fld.other W35 G_goldBrackets (Or.inr (slot_ne (Or.inl (hw _ (List.mem_of_getElem? (i := 65) rfl))) (Or.inl (hw _ (List.mem_of_getElem? (i := 130) rfl))) (by decide) (t := .long) (t' := .int) (by decide) (by decide)))
        replace G_parsedBrackets := Fld.other W35 G_parsedBrackets (Or.inr (slot_ne (Or.inl (hw _ (List.mem_of_getElem? (i := 72) rfl))) (Or.inl (hw _ (List.mem_of_getElem? (i := 130) rfl))) (by decide) (t := .long) (t' := .int) (by decide) (by decide)))
        replace G_matchedBrackets := Fld.other W35 G_matchedBrackets (Or.inr (slot_ne (Or.inl (hw _ (List.mem_of_getElem? (i := 79) rfl))) (Or.inl (hw _ (List.mem_of_getElem? (i := 130) rfl))) (by decide) (t := .long) (t' := .int) (by decide) (by decide)))
        replace G_crossingBrackets := Fld.other W35 G_crossingBrackets (Or.inr (slot_ne (Or.inl (hw _ (List.mem_of_getElem? (i := 86) rfl))) (Or.inl (hw _ (List.mem_of_getElem? (i := 130) rfl))) (by decide) (t := .long) (t' := .int) (by decide) (by decide)))
        replace G_withoutCrossing := Fld.other W35 G_withoutCrossing (Or.inr (slot_ne (Or.inl (hw _ (List.mem_of_getElem? (i := 99) rfl))) (Or.inl (hw _ (List.mem_of_getElem? (i := 130) rfl))) (by decide) (t := .int) (t' := .int) (by decide) (by decide)))
        replace G_withTwoOrLessCrossing := Fld.other W35 G_withTwoOrLessCrossing (Or.inr (slot_ne (Or.inl (hw _ (List.mem_of_getElem? (i := 101) rfl))) (Or.inl (hw _ (List.mem_of_getElem? (i := 130) rfl))) (by decide) (t := .int) (t' := .int) (by decide) (by decide)))
        replace G_words := Fld.other W35 G_words (Or.inr (slot_ne (Or.inl (hw _ (List.mem_of_getElem? (i := 103) rfl))) (Or.inl (hw _ (List.mem_of_getElem? (i := 130) rfl))) (by decide) (t := .long) (t' := .int) (by decide) (by decide)))
        replace G_correctTags := Fld.other W35 G_correctTags (Or.inr (slot_ne (Or.inl (hw _ (List.mem_of_getElem? (i := 110) rfl))) (Or.inl (hw _ (List.mem_of_getElem? (i := 130) rfl))) (by decide) (t := .long) (t' := .int) (by decide) (by decide)))
        replace F_status := Fld.other W35 F_status (Or.inl (Ne.symm hne))
        replace F_goldBrackets := Fld.other W35 F_goldBrackets (Or.inl (Ne.symm hne))
        replace F_parsedBrackets := Fld.other W35 F_parsedBrackets (Or.inl (Ne.symm hne))
        replace F_matchedBrackets := Fld.other W35 F_matchedBrackets (Or.inl (Ne.symm hne))
        replace F_crossingBrackets := Fld.other W35 F_crossingBrackets (Or.inl (Ne.symm hne))
        replace F_words := Fld.other W35 F_words (Or.inl (Ne.symm hne))
        replace F_correctTags := Fld.other W35 F_correctTags (Or.inl (Ne.symm hne))
        replace G_completeMatches := Fld.same W35 G_completeMatches
        have K := Keep.wr K W35 (Or.inl (by simp))
        refine aloadN P d6_125 rfl rfl (n := 126) rfl ?_
        refine callV P d6_126 (a := b) (argsL := []) (rest := []) (c_crossingBrackets l Z a0 hw b u5 h34 n0 P.low F_crossingBrackets) E_b (hw _ (List.mem_of_getElem? (i := 87) rfl)) (hw _ (List.mem_of_getElem? (i := 88) rfl)) (notFace_of_selects (args := #[]) (mvT P.hZ (hw _ (List.mem_of_getElem? (i := 90) rfl)))) (hw _ (List.mem_of_getElem? (i := 90) rfl)) (hw _ (List.mem_of_getElem? (i := 89) rfl)) (hw _ (List.mem_of_getElem? (i := 11) rfl)) (hw _ (List.mem_of_getElem? (i := 91) rfl)) (by decide) pd_2 rfl rfl rfl ⟨by decide, Nat.le_of_ble_eq_true rfl, by decide, by decide⟩ (n := 129) rfl (Ret.on ?_)
        intro T P
        refine if0_ne P d6_129 (n' := 142) (n := 132) (by decide) rfl (fun hc129 => ?_) (fun hc129 => ?_)
        · -- pc 129 taken
          replace hc129 : ¬ u5.toInt = (0 : Int) := hc129
          refine aloadN P d6_142 rfl rfl (n := 143) rfl ?_
          refine callV P d6_143 (a := b) (argsL := []) (rest := []) (c_crossingBrackets l Z a0 hw b u5 h34 n0 P.low F_crossingBrackets) E_b (hw _ (List.mem_of_getElem? (i := 87) rfl)) (hw _ (List.mem_of_getElem? (i := 88) rfl)) (notFace_of_selects (args := #[]) (mvT P.hZ (hw _ (List.mem_of_getElem? (i := 90) rfl)))) (hw _ (List.mem_of_getElem? (i := 90) rfl)) (hw _ (List.mem_of_getElem? (i := 89) rfl)) (hw _ (List.mem_of_getElem? (i := 11) rfl)) (hw _ (List.mem_of_getElem? (i := 91) rfl)) (by decide) pd_2 rfl rfl rfl ⟨by decide, Nat.le_of_ble_eq_true rfl, by decide, by decide⟩ (n := 146) rfl (Ret.on ?_)
          intro T P
          refine iconst P d6_146 (x := (2 : Int32)) rfl (n := 147) rfl ?_
          refine icmp_gt P d6_147 (n' := 160) (n := 150) (by decide) rfl (fun hc147 => ?_) (fun hc147 => ?_)
          · -- pc 147 taken
            replace hc147 : (2 : Int) < u5.toInt := hc147
            refine aloadN P d6_160 rfl rfl (n := 161) rfl ?_
            refine dup P d6_161 rfl (n := 162) rfl ?_
            refine getF P d6_162 (hw _ (List.mem_of_getElem? (i := 102) rfl)) G_words (n := 165) rfl ?_
            intro T P
            refine aloadN P d6_165 rfl rfl (n := 166) rfl ?_
            refine callV P d6_166 (a := b) (argsL := []) (rest := [(.long t10), (.ref a)]) (c_words l Z a0 hw b u6 h34 n0 P.low F_words) E_b (hw _ (List.mem_of_getElem? (i := 104) rfl)) (hw _ (List.mem_of_getElem? (i := 105) rfl)) (notFace_of_selects (args := #[]) (mvT P.hZ (hw _ (List.mem_of_getElem? (i := 107) rfl)))) (hw _ (List.mem_of_getElem? (i := 107) rfl)) (hw _ (List.mem_of_getElem? (i := 106) rfl)) (hw _ (List.mem_of_getElem? (i := 11) rfl)) (hw _ (List.mem_of_getElem? (i := 108) rfl)) (by decide) pd_2 rfl rfl rfl ⟨by decide, Nat.le_of_ble_eq_true rfl, by decide, by decide⟩ (n := 169) rfl (Ret.on ?_)
            intro T P
            refine i2l P d6_169 (n := 170) rfl ?_
            refine ladd P d6_170 (n := 171) rfl ?_
            refine putF P d6_171 (hw _ (List.mem_of_getElem? (i := 102) rfl)) G_words E_a (Or.inl (hw _ (List.mem_of_getElem? (i := 103) rfl))) (hw _ (List.mem_of_getElem? (i := 42) rfl)) (ty := .long) (by decide) rfl rfl lo (n := 174) rfl ?_
            intro T h36 P W37
            replace S_v := Sta.wr W37 S_v
            replace S_e := Sta.wr W37 S_e
            replace S_k := Sta.wr W37 S_k
            replace E_a := Exa.wr W37 E_a
            replace E_b := Exa.wr W37 E_b
            replace G_sentences := Fld.other W37 G_sentences (Or.inr (slot_ne (Or.inl (hw _ (List.mem_of_getElem? (i := 54) rfl))) (Or.inl (hw _ (List.mem_of_getElem? (i := 103) rfl))) (by decide) (t := .int) (t' := .long) (by decide) (by decide)))
            replace G_errors := Fld.other W37 G_errors (Or.inr (slot_ne (Or.inl (hw _ (List.mem_of_getElem? (i := 128) rfl))) (Or.inl (hw _ (List.mem_of_getElem? (i := 103) rfl))) (by decide) (t := .int) (t' := .long) (by decide) (by decide)))
            replace G_skipped := Fld.other W37 G_skipped (Or.inr (slot_ne (Or.inl (hw _ (List.mem_of_getElem? (i := 125) rfl))) (Or.inl (hw _ (List.mem_of_getElem? (i := 103) rfl))) (by decide) (t := .int) (t' := .long) (by decide) (by decide)))
            replace G_goldBrackets := Fld.other W37 G_goldBrackets (Or.inr (slot_ne (Or.inl (hw _ (List.mem_of_getElem? (i := 65) rfl))) (Or.inl (hw _ (List.mem_of_getElem? (i := 103) rfl))) (by decide) (t := .long) (t' := .long) (by decide) (by decide)))
            replace G_parsedBrackets := Fld.other W37 G_parsedBrackets (Or.inr (slot_ne (Or.inl (hw _ (List.mem_of_getElem? (i := 72) rfl))) (Or.inl (hw _ (List.mem_of_getElem? (i := 103) rfl))) (by decide) (t := .long) (t' := .long) (by decide) (by decide)))
            replace G_matchedBrackets := Fld.other W37 G_matchedBrackets (Or.inr (slot_ne (Or.inl (hw _ (List.mem_of_getElem? (i := 79) rfl))) (Or.inl (hw _ (List.mem_of_getElem? (i := 103) rfl))) (by decide) (t := .long) (t' := .long) (by decide) (by decide)))
            replace G_crossingBrackets := Fld.other W37 G_crossingBrackets (Or.inr (slot_ne (Or.inl (hw _ (List.mem_of_getElem? (i := 86) rfl))) (Or.inl (hw _ (List.mem_of_getElem? (i := 103) rfl))) (by decide) (t := .long) (t' := .long) (by decide) (by decide)))
            replace G_completeMatches := Fld.other W37 G_completeMatches (Or.inr (slot_ne (Or.inl (hw _ (List.mem_of_getElem? (i := 130) rfl))) (Or.inl (hw _ (List.mem_of_getElem? (i := 103) rfl))) (by decide) (t := .int) (t' := .long) (by decide) (by decide)))
            replace G_withoutCrossing := Fld.other W37 G_withoutCrossing (Or.inr (slot_ne (Or.inl (hw _ (List.mem_of_getElem? (i := 99) rfl))) (Or.inl (hw _ (List.mem_of_getElem? (i := 103) rfl))) (by decide) (t := .int) (t' := .long) (by decide) (by decide)))
            replace G_withTwoOrLessCrossing := Fld.other W37 G_withTwoOrLessCrossing (Or.inr (slot_ne (Or.inl (hw _ (List.mem_of_getElem? (i := 101) rfl))) (Or.inl (hw _ (List.mem_of_getElem? (i := 103) rfl))) (by decide) (t := .int) (t' := .long) (by decide) (by decide)))
            replace G_correctTags := Fld.other W37 G_correctTags (Or.inr (slot_ne (Or.inl (hw _ (List.mem_of_getElem? (i := 110) rfl))) (Or.inl (hw _ (List.mem_of_getElem? (i := 103) rfl))) (by decide) (t := .long) (t' := .long) (by decide) (by decide)))
            replace F_status := Fld.other W37 F_status (Or.inl (Ne.symm hne))
            replace F_goldBrackets := Fld.other W37 F_goldBrackets (Or.inl (Ne.symm hne))
            replace F_parsedBrackets := Fld.other W37 F_parsedBrackets (Or.inl (Ne.symm hne))
            replace F_matchedBrackets := Fld.other W37 F_matchedBrackets (Or.inl (Ne.symm hne))
            replace F_crossingBrackets := Fld.other W37 F_crossingBrackets (Or.inl (Ne.symm hne))
            replace F_words := Fld.other W37 F_words (Or.inl (Ne.symm hne))
            replace F_correctTags := Fld.other W37 F_correctTags (Or.inl (Ne.symm hne))
            replace G_words := Fld.same W37 G_words
            have K := Keep.wr K W37 (Or.inl (by simp))
            refine aloadN P d6_174 rfl rfl (n := 175) rfl ?_
            refine dup P d6_175 rfl (n := 176) rfl ?_
            refine getF P d6_176 (hw _ (List.mem_of_getElem? (i := 109) rfl)) G_correctTags (n := 179) rfl ?_
            intro T P
            refine aloadN P d6_179 rfl rfl (n := 180) rfl ?_
            refine callV P d6_180 (a := b) (argsL := []) (rest := [(.long t11), (.ref a)]) (c_correctTags l Z a0 hw b u7 h36 n0 P.low F_correctTags) E_b (hw _ (List.mem_of_getElem? (i := 111) rfl)) (hw _ (List.mem_of_getElem? (i := 112) rfl)) (notFace_of_selects (args := #[]) (mvT P.hZ (hw _ (List.mem_of_getElem? (i := 114) rfl)))) (hw _ (List.mem_of_getElem? (i := 114) rfl)) (hw _ (List.mem_of_getElem? (i := 113) rfl)) (hw _ (List.mem_of_getElem? (i := 11) rfl)) (hw _ (List.mem_of_getElem? (i := 115) rfl)) (by decide) pd_2 rfl rfl rfl ⟨by decide, Nat.le_of_ble_eq_true rfl, by decide, by decide⟩ (n := 183) rfl (Ret.on ?_)
            intro T P
            refine i2l P d6_183 (n := 184) rfl ?_
            refine ladd P d6_184 (n := 185) rfl ?_
            refine putF P d6_185 (hw _ (List.mem_of_getElem? (i := 109) rfl)) G_correctTags E_a (Or.inl (hw _ (List.mem_of_getElem? (i := 110) rfl))) (hw _ (List.mem_of_getElem? (i := 42) rfl)) (ty := .long) (by decide) rfl rfl lo (n := 188) rfl ?_
            intro T h38 P W39
            replace S_v := Sta.wr W39 S_v
            replace S_e := Sta.wr W39 S_e
            replace S_k := Sta.wr W39 S_k
            replace E_a := Exa.wr W39 E_a
            replace E_b := Exa.wr W39 E_b
            replace G_sentences := Fld.other W39 G_sentences (Or.inr (slot_ne (Or.inl (hw _ (List.mem_of_getElem? (i := 54) rfl))) (Or.inl (hw _ (List.mem_of_getElem? (i := 110) rfl))) (by decide) (t := .int) (t' := .long) (by decide) (by decide)))
            replace G_errors := Fld.other W39 G_errors (Or.inr (slot_ne (Or.inl (hw _ (List.mem_of_getElem? (i := 128) rfl))) (Or.inl (hw _ (List.mem_of_getElem? (i := 110) rfl))) (by decide) (t := .int) (t' := .long) (by decide) (by decide)))
            replace G_skipped := Fld.other W39 G_skipped (Or.inr (slot_ne (Or.inl (hw _ (List.mem_of_getElem? (i := 125) rfl))) (Or.inl (hw _ (List.mem_of_getElem? (i := 110) rfl))) (by decide) (t := .int) (t' := .long) (by decide) (by decide)))
            replace G_goldBrackets := Fld.other W39 G_goldBrackets (Or.inr (slot_ne (Or.inl (hw _ (List.mem_of_getElem? (i := 65) rfl))) (Or.inl (hw _ (List.mem_of_getElem? (i := 110) rfl))) (by decide) (t := .long) (t' := .long) (by decide) (by decide)))
            replace G_parsedBrackets := Fld.other W39 G_parsedBrackets (Or.inr (slot_ne (Or.inl (hw _ (List.mem_of_getElem? (i := 72) rfl))) (Or.inl (hw _ (List.mem_of_getElem? (i := 110) rfl))) (by decide) (t := .long) (t' := .long) (by decide) (by decide)))
            replace G_matchedBrackets := Fld.other W39 G_matchedBrackets (Or.inr (slot_ne (Or.inl (hw _ (List.mem_of_getElem? (i := 79) rfl))) (Or.inl (hw _ (List.mem_of_getElem? (i := 110) rfl))) (by decide) (t := .long) (t' := .long) (by decide) (by decide)))
            replace G_crossingBrackets := Fld.other W39 G_crossingBrackets (Or.inr (slot_ne (Or.inl (hw _ (List.mem_of_getElem? (i := 86) rfl))) (Or.inl (hw _ (List.mem_of_getElem? (i := 110) rfl))) (by decide) (t := .long) (t' := .long) (by decide) (by decide)))
            replace G_completeMatches := Fld.other W39 G_completeMatches (Or.inr (slot_ne (Or.inl (hw _ (List.mem_of_getElem? (i := 130) rfl))) (Or.inl (hw _ (List.mem_of_getElem? (i := 110) rfl))) (by decide) (t := .int) (t' := .long) (by decide) (by decide)))
            replace G_withoutCrossing := Fld.other W39 G_withoutCrossing (Or.inr (slot_ne (Or.inl (hw _ (List.mem_of_getElem? (i := 99) rfl))) (Or.inl (hw _ (List.mem_of_getElem? (i := 110) rfl))) (by decide) (t := .int) (t' := .long) (by decide) (by decide)))
            replace G_withTwoOrLessCrossing := Fld.other W39 G_withTwoOrLessCrossing (Or.inr (slot_ne (Or.inl (hw _ (List.mem_of_getElem? (i := 101) rfl))) (Or.inl (hw _ (List.mem_of_getElem? (i := 110) rfl))) (by decide) (t := .int) (t' := .long) (by decide) (by decide)))
            replace G_words := Fld.other W39 G_words (Or.inr (slot_ne (Or.inl (hw _ (List.mem_of_getElem? (i := 103) rfl))) (Or.inl (hw _ (List.mem_of_getElem? (i := 110) rfl))) (by decide) (t := .long) (t' := .long) (by decide) (by decide)))
            replace F_status := Fld.other W39 F_status (Or.inl (Ne.symm hne))
            replace F_goldBrackets := Fld.other W39 F_goldBrackets (Or.inl (Ne.symm hne))
            replace F_parsedBrackets := Fld.other W39 F_parsedBrackets (Or.inl (Ne.symm hne))
            replace F_matchedBrackets := Fld.other W39 F_matchedBrackets (Or.inl (Ne.symm hne))
            replace F_crossingBrackets := Fld.other W39 F_crossingBrackets (Or.inl (Ne.symm hne))
            replace F_words := Fld.other W39 F_words (Or.inl (Ne.symm hne))
            replace F_correctTags := Fld.other W39 F_correctTags (Or.inl (Ne.symm hne))
            replace G_correctTags := Fld.same W39 G_correctTags
            have K := Keep.wr K W39 (Or.inl (by simp))
            refine retV P d6_188 (by decide) (by decide) ?_
            refine ⟨rfl, K, fun q => ?_, fun _ => ⟨E_a, ⟨_, _, _, _, _, _, _, _, _, _, G_sentences, G_errors, G_skipped, G_goldBrackets, G_crossingBrackets, G_completeMatches, G_withoutCrossing, G_withTwoOrLessCrossing, G_words, G_correctTags⟩, G_parsedBrackets, G_matchedBrackets⟩⟩
            rcases q with q | q
            · exact absurd (congrArg Value.ref q) hc17
            · exact absurd (congrArg Value.ref q) hc38
          · -- pc 147 not taken
            replace hc147 : u5.toInt ≤ (2 : Int) := hc147
            refine aloadN P d6_150 rfl rfl (n := 151) rfl ?_
            refine dup P d6_151 rfl (n := 152) rfl ?_
            refine getF P d6_152 (hw _ (List.mem_of_getElem? (i := 100) rfl)) G_withTwoOrLessCrossing (n := 155) rfl ?_
            intro T P
            refine iconst P d6_155 (x := (1 : Int32)) rfl (n := 156) rfl ?_
            refine iadd P d6_156 (n := 157) rfl ?_
            refine putF P d6_157 (hw _ (List.mem_of_getElem? (i := 100) rfl)) G_withTwoOrLessCrossing E_a (Or.inl (hw _ (List.mem_of_getElem? (i := 101) rfl))) (hw _ (List.mem_of_getElem? (i := 42) rfl)) (ty := .int) (by decide) rfl rfl lo (n := 160) rfl ?_
            intro T h40 P W41
            replace S_v := Sta.wr W41 S_v
            replace S_e := Sta.wr W41 S_e
            replace S_k := Sta.wr W41 S_k
            replace E_a := Exa.wr W41 E_a
            replace E_b := Exa.wr W41 E_b
            replace G_sentences := Fld.other W41 G_sentences (Or.inr (slot_ne (Or.inl (hw _ (List.mem_of_getElem? (i := 54) rfl))) (Or.inl (hw _ (List.mem_of_getElem? (i := 101) rfl))) (by decide) (t := .int) (t' := .int) (by decide) (by decide)))
            replace G_errors := Fld.other W41 G_errors (Or.inr (slot_ne (Or.inl (hw _ (List.mem_of_getElem? (i := 128) rfl))) (Or.inl (hw _ (List.mem_of_getElem? (i := 101) rfl))) (by decide) (t := .int) (t' := .int) (by decide) (by decide)))
            replace G_skipped := Fld.other W41 G_skipped (Or.inr (slot_ne (Or.inl (hw _ (List.mem_of_getElem? (i := 125) rfl))) (Or.inl (hw _ (List.mem_of_getElem? (i := 101) rfl))) (by decide) (t := .int) (t' := .int) (by decide) (by decide)))
            replace G_goldBrackets := Fld.other W41 G_goldBrackets (Or.inr (slot_ne (Or.inl (hw _ (List.mem_of_getElem? (i := 65) rfl))) (Or.inl (hw _ (List.mem_of_getElem? (i := 101) rfl))) (by decide) (t := .long) (t' := .int) (by decide) (by decide)))
            replace G_parsedBrackets := Fld.other W41 G_parsedBrackets (Or.inr (slot_ne (Or.inl (hw _ (List.mem_of_getElem? (i := 72) rfl))) (Or.inl (hw _ (List.mem_of_getElem? (i := 101) rfl))) (by decide) (t := .long) (t' := .int) (by decide) (by decide)))
            replace G_matchedBrackets := Fld.other W41 G_matchedBrackets (Or.inr (slot_ne (Or.inl (hw _ (List.mem_of_getElem? (i := 79) rfl))) (Or.inl (hw _ (List.mem_of_getElem? (i := 101) rfl))) (by decide) (t := .long) (t' := .int) (by decide) (by decide)))
            replace G_crossingBrackets := Fld.other W41 G_crossingBrackets (Or.inr (slot_ne (Or.inl (hw _ (List.mem_of_getElem? (i := 86) rfl))) (Or.inl (hw _ (List.mem_of_getElem? (i := 101) rfl))) (by decide) (t := .long) (t' := .int) (by decide) (by decide)))
            replace G_completeMatches := Fld.other W41 G_completeMatches (Or.inr (slot_ne (Or.inl (hw _ (List.mem_of_getElem? (i := 130) rfl))) (Or.inl (hw _ (List.mem_of_getElem? (i := 101) rfl))) (by decide) (t := .int) (t' := .int) (by decide) (by decide)))
            replace G_withoutCrossing := Fld.other W41 G_withoutCrossing (Or.inr (slot_ne (Or.inl (hw _ (List.mem_of_getElem? (i := 99) rfl))) (Or.inl (hw _ (List.mem_of_getElem? (i := 101) rfl))) (by decide) (t := .int) (t' := .int) (by decide) (by decide)))
            replace G_words := Fld.other W41 G_words (Or.inr (slot_ne (Or.inl (hw _ (List.mem_of_getElem? (i := 103) rfl))) (Or.inl (hw _ (List.mem_of_getElem? (i := 101) rfl))) (by decide) (t := .long) (t' := .int) (by decide) (by decide)))
            replace G_correctTags := Fld.other W41 G_correctTags (Or.inr (slot_ne (Or.inl (hw _ (List.mem_of_getElem? (i := 110) rfl))) (Or.inl (hw _ (List.mem_of_getElem? (i := 101) rfl))) (by decide) (t := .long) (t' := .int) (by decide) (by decide)))
            replace F_status := Fld.other W41 F_status (Or.inl (Ne.symm hne))
            replace F_goldBrackets := Fld.other W41 F_goldBrackets (Or.inl (Ne.symm hne))
            replace F_parsedBrackets := Fld.other W41 F_parsedBrackets (Or.inl (Ne.symm hne))
            replace F_matchedBrackets := Fld.other W41 F_matchedBrackets (Or.inl (Ne.symm hne))
            replace F_crossingBrackets := Fld.other W41 F_crossingBrackets (Or.inl (Ne.symm hne))
            replace F_words := Fld.other W41 F_words (Or.inl (Ne.symm hne))
            replace F_correctTags := Fld.other W41 F_correctTags (Or.inl (Ne.symm hne))
            replace G_withTwoOrLessCrossing := Fld.same W41 G_withTwoOrLessCrossing
            have K := Keep.wr K W41 (Or.inl (by simp))
            refine aloadN P d6_160 rfl rfl (n := 161) rfl ?_
            refine dup P d6_161 rfl (n := 162) rfl ?_
            refine getF P d6_162 (hw _ (List.mem_of_getElem? (i := 102) rfl)) G_words (n := 165) rfl ?_
            intro T P
            refine aloadN P d6_165 rfl rfl (n := 166) rfl ?_
            refine callV P d6_166 (a := b) (argsL := []) (rest := [(.long t10), (.ref a)]) (c_words l Z a0 hw b u6 h40 n0 P.low F_words) E_b (hw _ (List.mem_of_getElem? (i := 104) rfl)) (hw _ (List.mem_of_getElem? (i := 105) rfl)) (notFace_of_selects (args := #[]) (mvT P.hZ (hw _ (List.mem_of_getElem? (i := 107) rfl)))) (hw _ (List.mem_of_getElem? (i := 107) rfl)) (hw _ (List.mem_of_getElem? (i := 106) rfl)) (hw _ (List.mem_of_getElem? (i := 11) rfl)) (hw _ (List.mem_of_getElem? (i := 108) rfl)) (by decide) pd_2 rfl rfl rfl ⟨by decide, Nat.le_of_ble_eq_true rfl, by decide, by decide⟩ (n := 169) rfl (Ret.on ?_)
            intro T P
            refine i2l P d6_169 (n := 170) rfl ?_
            refine ladd P d6_170 (n := 171) rfl ?_
            refine putF P d6_171 (hw _ (List.mem_of_getElem? (i := 102) rfl)) G_words E_a (Or.inl (hw _ (List.mem_of_getElem? (i := 103) rfl))) (hw _ (List.mem_of_getElem? (i := 42) rfl)) (ty := .long) (by decide) rfl rfl lo (n := 174) rfl ?_
            intro T h42 P W43
            replace S_v := Sta.wr W43 S_v
            replace S_e := Sta.wr W43 S_e
            replace S_k := Sta.wr W43 S_k
            replace E_a := Exa.wr W43 E_a
            replace E_b := Exa.wr W43 E_b
            replace G_sentences := Fld.other W43 G_sentences (Or.inr (slot_ne (Or.inl (hw _ (List.mem_of_getElem? (i := 54) rfl))) (Or.inl (hw _ (List.mem_of_getElem? (i := 103) rfl))) (by decide) (t := .int) (t' := .long) (by decide) (by decide)))
            replace G_errors := Fld.other W43 G_errors (Or.inr (slot_ne (Or.inl (hw _ (List.mem_of_getElem? (i := 128) rfl))) (Or.inl (hw _ (List.mem_of_getElem? (i := 103) rfl))) (by decide) (t := .int) (t' := .long) (by decide) (by decide)))
            replace G_skipped := Fld.other W43 G_skipped (Or.inr (slot_ne (Or.inl (hw _ (List.mem_of_getElem? (i := 125) rfl))) (Or.inl (hw _ (List.mem_of_getElem? (i := 103) rfl))) (by decide) (t := .int) (t' := .long) (by decide) (by decide)))
            replace G_goldBrackets := Fld.other W43 G_goldBrackets (Or.inr (slot_ne (Or.inl (hw _ (List.mem_of_getElem? (i := 65) rfl))) (Or.inl (hw _ (List.mem_of_getElem? (i := 103) rfl))) (by decide) (t := .long) (t' := .long) (by decide) (by decide)))
            replace G_parsedBrackets := Fld.other W43 G_parsedBrackets (Or.inr (slot_ne (Or.inl (hw _ (List.mem_of_getElem? (i := 72) rfl))) (Or.inl (hw _ (List.mem_of_getElem? (i := 103) rfl))) (by decide) (t := .long) (t' := .long) (by decide) (by decide)))
            replace G_matchedBrackets := Fld.other W43 G_matchedBrackets (Or.inr (slot_ne (Or.inl (hw _ (List.mem_of_getElem? (i := 79) rfl))) (Or.inl (hw _ (List.mem_of_getElem? (i := 103) rfl))) (by decide) (t := .long) (t' := .long) (by decide) (by decide)))
            replace G_crossingBrackets := Fld.other W43 G_crossingBrackets (Or.inr (slot_ne (Or.inl (hw _ (List.mem_of_getElem? (i := 86) rfl))) (Or.inl (hw _ (List.mem_of_getElem? (i := 103) rfl))) (by decide) (t := .long) (t' := .long) (by decide) (by decide)))
            replace G_completeMatches := Fld.other W43 G_completeMatches (Or.inr (slot_ne (Or.inl (hw _ (List.mem_of_getElem? (i := 130) rfl))) (Or.inl (hw _ (List.mem_of_getElem? (i := 103) rfl))) (by decide) (t := .int) (t' := .long) (by decide) (by decide)))
            replace G_withoutCrossing := Fld.other W43 G_withoutCrossing (Or.inr (slot_ne (Or.inl (hw _ (List.mem_of_getElem? (i := 99) rfl))) (Or.inl (hw _ (List.mem_of_getElem? (i := 103) rfl))) (by decide) (t := .int) (t' := .long) (by decide) (by decide)))
            replace G_withTwoOrLessCrossing := Fld.other W43 G_withTwoOrLessCrossing (Or.inr (slot_ne (Or.inl (hw _ (List.mem_of_getElem? (i := 101) rfl))) (Or.inl (hw _ (List.mem_of_getElem? (i := 103) rfl))) (by decide) (t := .int) (t' := .long) (by decide) (by decide)))
            replace G_correctTags := Fld.other W43 G_correctTags (Or.inr (slot_ne (Or.inl (hw _ (List.mem_of_getElem? (i := 110) rfl))) (Or.inl (hw _ (List.mem_of_getElem? (i := 103) rfl))) (by decide) (t := .long) (t' := .long) (by decide) (by decide)))
            replace F_status := Fld.other W43 F_status (Or.inl (Ne.symm hne))
            replace F_goldBrackets := Fld.other W43 F_goldBrackets (Or.inl (Ne.symm hne))
            replace F_parsedBrackets := Fld.other W43 F_parsedBrackets (Or.inl (Ne.symm hne))
            replace F_matchedBrackets := Fld.other W43 F_matchedBrackets (Or.inl (Ne.symm hne))
            replace F_crossingBrackets := Fld.other W43 F_crossingBrackets (Or.inl (Ne.symm hne))
            replace F_words := Fld.other W43 F_words (Or.inl (Ne.symm hne))
            replace F_correctTags := Fld.other W43 F_correctTags (Or.inl (Ne.symm hne))
            replace G_words := Fld.same W43 G_words
            have K := Keep.wr K W43 (Or.inl (by simp))
            refine aloadN P d6_174 rfl rfl (n := 175) rfl ?_
            refine dup P d6_175 rfl (n := 176) rfl ?_
            refine getF P d6_176 (hw _ (List.mem_of_getElem? (i := 109) rfl)) G_correctTags (n := 179) rfl ?_
            intro T P
            refine aloadN P d6_179 rfl rfl (n := 180) rfl ?_
            refine callV P d6_180 (a := b) (argsL := []) (rest := [(.long t11), (.ref a)]) (c_correctTags l Z a0 hw b u7 h42 n0 P.low F_correctTags) E_b (hw _ (List.mem_of_getElem? (i := 111) rfl)) (hw _ (List.mem_of_getElem? (i := 112) rfl)) (notFace_of_selects (args := #[]) (mvT P.hZ (hw _ (List.mem_of_getElem? (i := 114) rfl)))) (hw _ (List.mem_of_getElem? (i := 114) rfl)) (hw _ (List.mem_of_getElem? (i := 113) rfl)) (hw _ (List.mem_of_getElem? (i := 11) rfl)) (hw _ (List.mem_of_getElem? (i := 115) rfl)) (by decide) pd_2 rfl rfl rfl ⟨by decide, Nat.le_of_ble_eq_true rfl, by decide, by decide⟩ (n := 183) rfl (Ret.on ?_)
            intro T P
            refine i2l P d6_183 (n := 184) rfl ?_
            refine ladd P d6_184 (n := 185) rfl ?_
            refine putF P d6_185 (hw _ (List.mem_of_getElem? (i := 109) rfl)) G_correctTags E_a (Or.inl (hw _ (List.mem_of_getElem? (i := 110) rfl))) (hw _ (List.mem_of_getElem? (i := 42) rfl)) (ty := .long) (by decide) rfl rfl lo (n := 188) rfl ?_
            intro T h44 P W45
            replace S_v := Sta.wr W45 S_v
            replace S_e := Sta.wr W45 S_e
            replace S_k := Sta.wr W45 S_k
            replace E_a := Exa.wr W45 E_a
            replace E_b := Exa.wr W45 E_b
            replace G_sentences := Fld.other W45 G_sentences (Or.inr (slot_ne (Or.inl (hw _ (List.mem_of_getElem? (i := 54) rfl))) (Or.inl (hw _ (List.mem_of_getElem? (i := 110) rfl))) (by decide) (t := .int) (t' := .long) (by decide) (by decide)))
            replace G_errors := Fld.other W45 G_errors (Or.inr (slot_ne (Or.inl (hw _ (List.mem_of_getElem? (i := 128) rfl))) (Or.inl (hw _ (List.mem_of_getElem? (i := 110) rfl))) (by decide) (t := .int) (t' := .long) (by decide) (by decide)))
            replace G_skipped := Fld.other W45 G_skipped (Or.inr (slot_ne (Or.inl (hw _ (List.mem_of_getElem? (i := 125) rfl))) (Or.inl (hw _ (List.mem_of_getElem? (i := 110) rfl))) (by decide) (t := .int) (t' := .long) (by decide) (by decide)))
            replace G_goldBrackets := Fld.other W45 G_goldBrackets (Or.inr (slot_ne (Or.inl (hw _ (List.mem_of_getElem? (i := 65) rfl))) (Or.inl (hw _ (List.mem_of_getElem? (i := 110) rfl))) (by decide) (t := .long) (t' := .long) (by decide) (by decide)))
            replace G_parsedBrackets := Fld.other W45 G_parsedBrackets (Or.inr (slot_ne (Or.inl (hw _ (List.mem_of_getElem? (i := 72) rfl))) (Or.inl (hw _ (List.mem_of_getElem? (i := 110) rfl))) (by decide) (t := .long) (t' := .long) (by decide) (by decide)))
            replace G_matchedBrackets := Fld.other W45 G_matchedBrackets (Or.inr (slot_ne (Or.inl (hw _ (List.mem_of_getElem? (i := 79) rfl))) (Or.inl (hw _ (List.mem_of_getElem? (i := 110) rfl))) (by decide) (t := .long) (t' := .long) (by decide) (by decide)))
            replace G_crossingBrackets := Fld.other W45 G_crossingBrackets (Or.inr (slot_ne (Or.inl (hw _ (List.mem_of_getElem? (i := 86) rfl))) (Or.inl (hw _ (List.mem_of_getElem? (i := 110) rfl))) (by decide) (t := .long) (t' := .long) (by decide) (by decide)))
            replace G_completeMatches := Fld.other W45 G_completeMatches (Or.inr (slot_ne (Or.inl (hw _ (List.mem_of_getElem? (i := 130) rfl))) (Or.inl (hw _ (List.mem_of_getElem? (i := 110) rfl))) (by decide) (t := .int) (t' := .long) (by decide) (by decide)))
            replace G_withoutCrossing := Fld.other W45 G_withoutCrossing (Or.inr (slot_ne (Or.inl (hw _ (List.mem_of_getElem? (i := 99) rfl))) (Or.inl (hw _ (List.mem_of_getElem? (i := 110) rfl))) (by decide) (t := .int) (t' := .long) (by decide) (by decide)))
            replace G_withTwoOrLessCrossing := Fld.other W45 G_withTwoOrLessCrossing (Or.inr (slot_ne (Or.inl (hw _ (List.mem_of_getElem? (i := 101) rfl))) (Or.inl (hw _ (List.mem_of_getElem? (i := 110) rfl))) (by decide) (t := .int) (t' := .long) (by decide) (by decide)))
            replace G_words := Fld.other W45 G_words (Or.inr (slot_ne (Or.inl (hw _ (List.mem_of_getElem? (i := 103) rfl))) (Or.inl (hw _ (List.mem_of_getElem? (i := 110) rfl))) (by decide) (t := .long) (t' := .long) (by decide) (by decide)))
            replace F_status := Fld.other W45 F_status (Or.inl (Ne.symm hne))
            replace F_goldBrackets := Fld.other W45 F_goldBrackets (Or.inl (Ne.symm hne))
            replace F_parsedBrackets := Fld.other W45 F_parsedBrackets (Or.inl (Ne.symm hne))
            replace F_matchedBrackets := Fld.other W45 F_matchedBrackets (Or.inl (Ne.symm hne))
            replace F_crossingBrackets := Fld.other W45 F_crossingBrackets (Or.inl (Ne.symm hne))
            replace F_words := Fld.other W45 F_words (Or.inl (Ne.symm hne))
            replace F_correctTags := Fld.other W45 F_correctTags (Or.inl (Ne.symm hne))
            replace G_correctTags := Fld.same W45 G_correctTags
            have K := Keep.wr K W45 (Or.inl (by simp))
            refine retV P d6_188 (by decide) (by decide) ?_
            refine ⟨rfl, K, fun q => ?_, fun _ => ⟨E_a, ⟨_, _, _, _, _, _, _, _, _, _, G_sentences, G_errors, G_skipped, G_goldBrackets, G_crossingBrackets, G_completeMatches, G_withoutCrossing, G_withTwoOrLessCrossing, G_words, G_correctTags⟩, G_parsedBrackets, G_matchedBrackets⟩⟩
            rcases q with q | q
            · exact absurd (congrArg Value.ref q) hc17
            · exact absurd (congrArg Value.ref q) hc38
        · -- pc 129 not taken
          replace hc129 : u5.toInt = (0 : Int) := hc129
          refine aloadN P d6_132 rfl rfl (n := 133) rfl ?_
          refine dup P d6_133 rfl (n := 134) rfl ?_
          refine getF P d6_134 (hw _ (List.mem_of_getElem? (i := 98) rfl)) G_withoutCrossing (n := 137) rfl ?_
          intro T P
          refine iconst P d6_137 (x := (1 : Int32)) rfl (n := 138) rfl ?_
          refine iadd P d6_138 (n := 139) rfl ?_
          refine putF P d6_139 (hw _ (List.mem_of_getElem? (i := 98) rfl)) G_withoutCrossing E_a (Or.inl (hw _ (List.mem_of_getElem? (i := 99) rfl))) (hw _ (List.mem_of_getElem? (i := 42) rfl)) (ty := .int) (by decide) rfl rfl lo (n := 142) rfl ?_
          intro T h46 P W47
          replace S_v := Sta.wr W47 S_v
          replace S_e := Sta.wr W47 S_e
          replace S_k := Sta.wr W47 S_k
          replace E_a := Exa.wr W47 E_a
          replace E_b := Exa.wr W47 E_b
          replace G_sentences := Fld.other W47 G_sentences (Or.inr (slot_ne (Or.inl (hw _ (List.mem_of_getElem? (i := 54) rfl))) (Or.inl (hw _ (List.mem_of_getElem? (i := 99) rfl))) (by decide) (t := .int) (t' := .int) (by decide) (by decide)))
          replace G_errors := Fld.other W47 G_errors (Or.inr (slot_ne (Or.inl (hw _ (List.mem_of_getElem? (i := 128) rfl))) (Or.inl (hw _ (List.mem_of_getElem? (i := 99) rfl))) (by decide) (t := .int) (t' := .int) (by decide) (by decide)))
          replace G_skipped := Fld.other W47 G_skipped (Or.inr (slot_ne (Or.inl (hw _ (List.mem_of_getElem? (i := 125) rfl))) (Or.inl (hw _ (List.mem_of_getElem? (i := 99) rfl))) (by decide) (t := .int) (t' := .int) (by decide) (by decide)))
          replace G_goldBrackets := Fld.other W47 G_goldBrackets (Or.inr (slot_ne (Or.inl (hw _ (List.mem_of_getElem? (i := 65) rfl))) (Or.inl (hw _ (List.mem_of_getElem? (i := 99) rfl))) (by decide) (t := .long) (t' := .int) (by decide) (by decide)))
          replace G_parsedBrackets := Fld.other W47 G_parsedBrackets (Or.inr (slot_ne (Or.inl (hw _ (List.mem_of_getElem? (i := 72) rfl))) (Or.inl (hw _ (List.mem_of_getElem? (i := 99) rfl))) (by decide) (t := .long) (t' := .int) (by decide) (by decide)))
          replace G_matchedBrackets := Fld.other W47 G_matchedBrackets (Or.inr (slot_ne (Or.inl (hw _ (List.mem_of_getElem? (i := 79) rfl))) (Or.inl (hw _ (List.mem_of_getElem? (i := 99) rfl))) (by decide) (t := .long) (t' := .int) (by decide) (by decide)))
          replace G_crossingBrackets := Fld.other W47 G_crossingBrackets (Or.inr (slot_ne (Or.inl (hw _ (List.mem_of_getElem? (i := 86) rfl))) (Or.inl (hw _ (List.mem_of_getElem? (i := 99) rfl))) (by decide) (t := .long) (t' := .int) (by decide) (by decide)))
          replace G_completeMatches := Fld.other W47 G_completeMatches (Or.inr (slot_ne (Or.inl (hw _ (List.mem_of_getElem? (i := 130) rfl))) (Or.inl (hw _ (List.mem_of_getElem? (i := 99) rfl))) (by decide) (t := .int) (t' := .int) (by decide) (by decide)))
          replace G_withTwoOrLessCrossing := Fld.other W47 G_withTwoOrLessCrossing (Or.inr (slot_ne (Or.inl (hw _ (List.mem_of_getElem? (i := 101) rfl))) (Or.inl (hw _ (List.mem_of_getElem? (i := 99) rfl))) (by decide) (t := .int) (t' := .int) (by decide) (by decide)))
          replace G_words := Fld.other W47 G_words (Or.inr (slot_ne (Or.inl (hw _ (List.mem_of_getElem? (i := 103) rfl))) (Or.inl (hw _ (List.mem_of_getElem? (i := 99) rfl))) (by decide) (t := .long) (t' := .int) (by decide) (by decide)))
          replace G_correctTags := Fld.other W47 G_correctTags (Or.inr (slot_ne (Or.inl (hw _ (List.mem_of_getElem? (i := 110) rfl))) (Or.inl (hw _ (List.mem_of_getElem? (i := 99) rfl))) (by decide) (t := .long) (t' := .int) (by decide) (by decide)))
          replace F_status := Fld.other W47 F_status (Or.inl (Ne.symm hne))
          replace F_goldBrackets := Fld.other W47 F_goldBrackets (Or.inl (Ne.symm hne))
          replace F_parsedBrackets := Fld.other W47 F_parsedBrackets (Or.inl (Ne.symm hne))
          replace F_matchedBrackets := Fld.other W47 F_matchedBrackets (Or.inl (Ne.symm hne))
          replace F_crossingBrackets := Fld.other W47 F_crossingBrackets (Or.inl (Ne.symm hne))
          replace F_words := Fld.other W47 F_words (Or.inl (Ne.symm hne))
          replace F_correctTags := Fld.other W47 F_correctTags (Or.inl (Ne.symm hne))
          replace G_withoutCrossing := Fld.same W47 G_withoutCrossing
          have K := Keep.wr K W47 (Or.inl (by simp))
          refine aloadN P d6_142 rfl rfl (n := 143) rfl ?_
          refine callV P d6_143 (a := b) (argsL := []) (rest := []) (c_crossingBrackets l Z a0 hw b u5 h46 n0 P.low F_crossingBrackets) E_b (hw _ (List.mem_of_getElem? (i := 87) rfl)) (hw _ (List.mem_of_getElem? (i := 88) rfl)) (notFace_of_selects (args := #[]) (mvT P.hZ (hw _ (List.mem_of_getElem? (i := 90) rfl)))) (hw _ (List.mem_of_getElem? (i := 90) rfl)) (hw _ (List.mem_of_getElem? (i := 89) rfl)) (hw _ (List.mem_of_getElem? (i := 11) rfl)) (hw _ (List.mem_of_getElem? (i := 91) rfl)) (by decide) pd_2 rfl rfl rfl ⟨by decide, Nat.le_of_ble_eq_true rfl, by decide, by decide⟩ (n := 146) rfl (Ret.on ?_)
          intro T P
          refine iconst P d6_146 (x := (2 : Int32)) rfl (n := 147) rfl ?_
          refine icmp_gt P d6_147 (n' := 160) (n := 150) (by decide) rfl (fun hc147 => ?_) (fun hc147 => ?_)
          · -- pc 147 taken
            replace hc147 : (2 : Int) < u5.toInt := hc147
            refine aloadN P d6_160 rfl rfl (n := 161) rfl ?_
            refine dup P d6_161 rfl (n := 162) rfl ?_
            refine getF P d6_162 (hw _ (List.mem_of_getElem? (i := 102) rfl)) G_words (n := 165) rfl ?_
            intro T P
            refine aloadN P d6_165 rfl rfl (n := 166) rfl ?_
            refine callV P d6_166 (a := b) (argsL := []) (rest := [(.long t10), (.ref a)]) (c_words l Z a0 hw b u6 h46 n0 P.low F_words) E_b (hw _ (List.mem_of_getElem? (i := 104) rfl)) (hw _ (List.mem_of_getElem? (i := 105) rfl)) (notFace_of_selects (args := #[]) (mvT P.hZ (hw _ (List.mem_of_getElem? (i := 107) rfl)))) (hw _ (List.mem_of_getElem? (i := 107) rfl)) (hw _ (List.mem_of_getElem? (i := 106) rfl)) (hw _ (List.mem_of_getElem? (i := 11) rfl)) (hw _ (List.mem_of_getElem? (i := 108) rfl)) (by decide) pd_2 rfl rfl rfl ⟨by decide, Nat.le_of_ble_eq_true rfl, by decide, by decide⟩ (n := 169) rfl (Ret.on ?_)
            intro T P
            refine i2l P d6_169 (n := 170) rfl ?_
            refine ladd P d6_170 (n := 171) rfl ?_
            refine putF P d6_171 (hw _ (List.mem_of_getElem? (i := 102) rfl)) G_words E_a (Or.inl (hw _ (List.mem_of_getElem? (i := 103) rfl))) (hw _ (List.mem_of_getElem? (i := 42) rfl)) (ty := .long) (by decide) rfl rfl lo (n := 174) rfl ?_
            intro T h48 P W49
            replace S_v := Sta.wr W49 S_v
            replace S_e := Sta.wr W49 S_e
            replace S_k := Sta.wr W49 S_k
            replace E_a := Exa.wr W49 E_a
            replace E_b := Exa.wr W49 E_b
            replace G_sentences := Fld.other W49 G_sentences (Or.inr (slot_ne (Or.inl (hw _ (List.mem_of_getElem? (i := 54) rfl))) (Or.inl (hw _ (List.mem_of_getElem? (i := 103) rfl))) (by decide) (t := .int) (t' := .long) (by decide) (by decide)))
            replace G_errors := Fld.other W49 G_errors (Or.inr (slot_ne (Or.inl (hw _ (List.mem_of_getElem? (i := 128) rfl))) (Or.inl (hw _ (List.mem_of_getElem? (i := 103) rfl))) (by decide) (t := .int) (t' := .long) (by decide) (by decide)))
            replace G_skipped := Fld.other W49 G_skipped (Or.inr (slot_ne (Or.inl (hw _ (List.mem_of_getElem? (i := 125) rfl))) (Or.inl (hw _ (List.mem_of_getElem? (i := 103) rfl))) (by decide) (t := .int) (t' := .long) (by decide) (by decide)))
            replace G_goldBrackets := Fld.other W49 G_goldBrackets (Or.inr (slot_ne (Or.inl (hw _ (List.mem_of_getElem? (i := 65) rfl))) (Or.inl (hw _ (List.mem_of_getElem? (i := 103) rfl))) (by decide) (t := .long) (t' := .long) (by decide) (by decide)))
            replace G_parsedBrackets := Fld.other W49 G_parsedBrackets (Or.inr (slot_ne (Or.inl (hw _ (List.mem_of_getElem? (i := 72) rfl))) (Or.inl (hw _ (List.mem_of_getElem? (i := 103) rfl))) (by decide) (t := .long) (t' := .long) (by decide) (by decide)))
            replace G_matchedBrackets := Fld.other W49 G_matchedBrackets (Or.inr (slot_ne (Or.inl (hw _ (List.mem_of_getElem? (i := 79) rfl))) (Or.inl (hw _ (List.mem_of_getElem? (i := 103) rfl))) (by decide) (t := .long) (t' := .long) (by decide) (by decide)))
            replace G_crossingBrackets := Fld.other W49 G_crossingBrackets (Or.inr (slot_ne (Or.inl (hw _ (List.mem_of_getElem? (i := 86) rfl))) (Or.inl (hw _ (List.mem_of_getElem? (i := 103) rfl))) (by decide) (t := .long) (t' := .long) (by decide) (by decide)))
            replace G_completeMatches := Fld.other W49 G_completeMatches (Or.inr (slot_ne (Or.inl (hw _ (List.mem_of_getElem? (i := 130) rfl))) (Or.inl (hw _ (List.mem_of_getElem? (i := 103) rfl))) (by decide) (t := .int) (t' := .long) (by decide) (by decide)))
            replace G_withoutCrossing := Fld.other W49 G_withoutCrossing (Or.inr (slot_ne (Or.inl (hw _ (List.mem_of_getElem? (i := 99) rfl))) (Or.inl (hw _ (List.mem_of_getElem? (i := 103) rfl))) (by decide) (t := .int) (t' := .long) (by decide) (by decide)))
            replace G_withTwoOrLessCrossing := Fld.other W49 G_withTwoOrLessCrossing (Or.inr (slot_ne (Or.inl (hw _ (List.mem_of_getElem? (i := 101) rfl))) (Or.inl (hw _ (List.mem_of_getElem? (i := 103) rfl))) (by decide) (t := .int) (t' := .long) (by decide) (by decide)))
            replace G_correctTags := Fld.other W49 G_correctTags (Or.inr (slot_ne (Or.inl (hw _ (List.mem_of_getElem? (i := 110) rfl))) (Or.inl (hw _ (List.mem_of_getElem? (i := 103) rfl))) (by decide) (t := .long) (t' := .long) (by decide) (by decide)))
            replace F_status := Fld.other W49 F_status (Or.inl (Ne.symm hne))
            replace F_goldBrackets := Fld.other W49 F_goldBrackets (Or.inl (Ne.symm hne))
            replace F_parsedBrackets := Fld.other W49 F_parsedBrackets (Or.inl (Ne.symm hne))
            replace F_matchedBrackets := Fld.other W49 F_matchedBrackets (Or.inl (Ne.symm hne))
            replace F_crossingBrackets := Fld.other W49 F_crossingBrackets (Or.inl (Ne.symm hne))
            replace F_words := Fld.other W49 F_words (Or.inl (Ne.symm hne))
            replace F_correctTags := Fld.other W49 F_correctTags (Or.inl (Ne.symm hne))
            replace G_words := Fld.same W49 G_words
            have K := Keep.wr K W49 (Or.inl (by simp))
            refine aloadN P d6_174 rfl rfl (n := 175) rfl ?_
            refine dup P d6_175 rfl (n := 176) rfl ?_
            refine getF P d6_176 (hw _ (List.mem_of_getElem? (i := 109) rfl)) G_correctTags (n := 179) rfl ?_
            intro T P
            refine aloadN P d6_179 rfl rfl (n := 180) rfl ?_
            refine callV P d6_180 (a := b) (argsL := []) (rest := [(.long t11), (.ref a)]) (c_correctTags l Z a0 hw b u7 h48 n0 P.low F_correctTags) E_b (hw _ (List.mem_of_getElem? (i := 111) rfl)) (hw _ (List.mem_of_getElem? (i := 112) rfl)) (notFace_of_selects (args := #[]) (mvT P.hZ (hw _ (List.mem_of_getElem? (i := 114) rfl)))) (hw _ (List.mem_of_getElem? (i := 114) rfl)) (hw _ (List.mem_of_getElem? (i := 113) rfl)) (hw _ (List.mem_of_getElem? (i := 11) rfl)) (hw _ (List.mem_of_getElem? (i := 115) rfl)) (by decide) pd_2 rfl rfl rfl ⟨by decide, Nat.le_of_ble_eq_true rfl, by decide, by decide⟩ (n := 183) rfl (Ret.on ?_)
            intro T P
            refine i2l P d6_183 (n := 184) rfl ?_
            refine ladd P d6_184 (n := 185) rfl ?_
            refine putF P d6_185 (hw _ (List.mem_of_getElem? (i := 109) rfl)) G_correctTags E_a (Or.inl (hw _ (List.mem_of_getElem? (i := 110) rfl))) (hw _ (List.mem_of_getElem? (i := 42) rfl)) (ty := .long) (by decide) rfl rfl lo (n := 188) rfl ?_
            intro T h50 P W51
            replace S_v := Sta.wr W51 S_v
            replace S_e := Sta.wr W51 S_e
            replace S_k := Sta.wr W51 S_k
            replace E_a := Exa.wr W51 E_a
            replace E_b := Exa.wr W51 E_b
            replace G_sentences := Fld.other W51 G_sentences (Or.inr (slot_ne (Or.inl (hw _ (List.mem_of_getElem? (i := 54) rfl))) (Or.inl (hw _ (List.mem_of_getElem? (i := 110) rfl))) (by decide) (t := .int) (t' := .long) (by decide) (by decide)))
            replace G_errors := Fld.other W51 G_errors (Or.inr (slot_ne (Or.inl (hw _ (List.mem_of_getElem? (i := 128) rfl))) (Or.inl (hw _ (List.mem_of_getElem? (i := 110) rfl))) (by decide) (t := .int) (t' := .long) (by decide) (by decide)))
            replace G_skipped := Fld.other W51 G_skipped (Or.inr (slot_ne (Or.inl (hw _ (List.mem_of_getElem? (i := 125) rfl))) (Or.inl (hw _ (List.mem_of_getElem? (i := 110) rfl))) (by decide) (t := .int) (t' := .long) (by decide) (by decide)))
            replace G_goldBrackets := Fld.other W51 G_goldBrackets (Or.inr (slot_ne (Or.inl (hw _ (List.mem_of_getElem? (i := 65) rfl))) (Or.inl (hw _ (List.mem_of_getElem? (i := 110) rfl))) (by decide) (t := .long) (t' := .long) (by decide) (by decide)))
            replace G_parsedBrackets := Fld.other W51 G_parsedBrackets (Or.inr (slot_ne (Or.inl (hw _ (List.mem_of_getElem? (i := 72) rfl))) (Or.inl (hw _ (List.mem_of_getElem? (i := 110) rfl))) (by decide) (t := .long) (t' := .long) (by decide) (by decide)))
            replace G_matchedBrackets := Fld.other W51 G_matchedBrackets (Or.inr (slot_ne (Or.inl (hw _ (List.mem_of_getElem? (i := 79) rfl))) (Or.inl (hw _ (List.mem_of_getElem? (i := 110) rfl))) (by decide) (t := .long) (t' := .long) (by decide) (by decide)))
            replace G_crossingBrackets := Fld.other W51 G_crossingBrackets (Or.inr (slot_ne (Or.inl (hw _ (List.mem_of_getElem? (i := 86) rfl))) (Or.inl (hw _ (List.mem_of_getElem? (i := 110) rfl))) (by decide) (t := .long) (t' := .long) (by decide) (by decide)))
            replace G_completeMatches := Fld.other W51 G_completeMatches (Or.inr (slot_ne (Or.inl (hw _ (List.mem_of_getElem? (i := 130) rfl))) (Or.inl (hw _ (List.mem_of_getElem? (i := 110) rfl))) (by decide) (t := .int) (t' := .long) (by decide) (by decide)))
            replace G_withoutCrossing := Fld.other W51 G_withoutCrossing (Or.inr (slot_ne (Or.inl (hw _ (List.mem_of_getElem? (i := 99) rfl))) (Or.inl (hw _ (List.mem_of_getElem? (i := 110) rfl))) (by decide) (t := .int) (t' := .long) (by decide) (by decide)))
            replace G_withTwoOrLessCrossing := Fld.other W51 G_withTwoOrLessCrossing (Or.inr (slot_ne (Or.inl (hw _ (List.mem_of_getElem? (i := 101) rfl))) (Or.inl (hw _ (List.mem_of_getElem? (i := 110) rfl))) (by decide) (t := .int) (t' := .long) (by decide) (by decide)))
            replace G_words := Fld.other W51 G_words (Or.inr (slot_ne (Or.inl (hw _ (List.mem_of_getElem? (i := 103) rfl))) (Or.inl (hw _ (List.mem_of_getElem? (i := 110) rfl))) (by decide) (t := .long) (t' := .long) (by decide) (by decide)))
            replace F_status := Fld.other W51 F_status (Or.inl (Ne.symm hne))
            replace F_goldBrackets := Fld.other W51 F_goldBrackets (Or.inl (Ne.symm hne))
            replace F_parsedBrackets := Fld.other W51 F_parsedBrackets (Or.inl (Ne.symm hne))
            replace F_matchedBrackets := Fld.other W51 F_matchedBrackets (Or.inl (Ne.symm hne))
            replace F_crossingBrackets := Fld.other W51 F_crossingBrackets (Or.inl (Ne.symm hne))
            replace F_words := Fld.other W51 F_words (Or.inl (Ne.symm hne))
            replace F_correctTags := Fld.other W51 F_correctTags (Or.inl (Ne.symm hne))
            replace G_correctTags := Fld.same W51 G_correctTags
            have K := Keep.wr K W51 (Or.inl (by simp))
            refine retV P d6_188 (by decide) (by decide) ?_
            refine ⟨rfl, K, fun q => ?_, fun _ => ⟨E_a, ⟨_, _, _, _, _, _, _, _, _, _, G_sentences, G_errors, G_skipped, G_goldBrackets, G_crossingBrackets, G_completeMatches, G_withoutCrossing, G_withTwoOrLessCrossing, G_words, G_correctTags⟩, G_parsedBrackets, G_matchedBrackets⟩⟩
            rcases q with q | q
            · exact absurd (congrArg Value.ref q) hc17
            · exact absurd (congrArg Value.ref q) hc38
          · -- pc 147 not taken
            replace hc147 : u5.toInt ≤ (2 : Int) := hc147
            refine aloadN P d6_150 rfl rfl (n := 151) rfl ?_
            refine dup P d6_151 rfl (n := 152) rfl ?_
            refine getF P d6_152 (hw _ (List.mem_of_getElem? (i := 100) rfl)) G_withTwoOrLessCrossing (n := 155) rfl ?_
            intro T P
            refine iconst P d6_155 (x := (1 : Int32)) rfl (n := 156) rfl ?_
            refine iadd P d6_156 (n := 157) rfl ?_
            refine putF P d6_157 (hw _ (List.mem_of_getElem? (i := 100) rfl)) G_withTwoOrLessCrossing E_a (Or.inl (hw _ (List.mem_of_getElem? (i := 101) rfl))) (hw _ (List.mem_of_getElem? (i := 42) rfl)) (ty := .int) (by decide) rfl rfl lo (n := 160) rfl ?_
            intro T h52 P W53
            replace S_v := Sta.wr W53 S_v
            replace S_e := Sta.wr W53 S_e
            replace S_k := Sta.wr W53 S_k
            replace E_a := Exa.wr W53 E_a
            replace E_b := Exa.wr W53 E_b
            replace G_sentences := Fld.other W53 G_sentences (Or.inr (slot_ne (Or.inl (hw _ (List.mem_of_getElem? (i := 54) rfl))) (Or.inl (hw _ (List.mem_of_getElem? (i := 101) rfl))) (by decide) (t := .int) (t' := .int) (by decide) (by decide)))
            replace G_errors := Fld.other W53 G_errors (Or.inr (slot_ne (Or.inl (hw _ (List.mem_of_getElem? (i := 128) rfl))) (Or.inl (hw _ (List.mem_of_getElem? (i := 101) rfl))) (by decide) (t := .int) (t' := .int) (by decide) (by decide)))
            replace G_skipped := Fld.other W53 G_skipped (Or.inr (slot_ne (Or.inl (hw _ (List.mem_of_getElem? (i := 125) rfl))) (Or.inl (hw _ (List.mem_of_getElem? (i := 101) rfl))) (by decide) (t := .int) (t' := .int) (by decide) (by decide)))
            replace G_goldBrackets := Fld.other W53 G_goldBrackets (Or.inr (slot_ne (Or.inl (hw _ (List.mem_of_getElem? (i := 65) rfl))) (Or.inl (hw _ (List.mem_of_getElem? (i := 101) rfl))) (by decide) (t := .long) (t' := .int) (by decide) (by decide)))
            replace G_parsedBrackets := Fld.other W53 G_parsedBrackets (Or.inr (slot_ne (Or.inl (hw _ (List.mem_of_getElem? (i := 72) rfl))) (Or.inl (hw _ (List.mem_of_getElem? (i := 101) rfl))) (by decide) (t := .long) (t' := .int) (by decide) (by decide)))
            replace G_matchedBrackets := Fld.other W53 G_matchedBrackets (Or.inr (slot_ne (Or.inl (hw _ (List.mem_of_getElem? (i := 79) rfl))) (Or.inl (hw _ (List.mem_of_getElem? (i := 101) rfl))) (by decide) (t := .long) (t' := .int) (by decide) (by decide)))
            replace G_crossingBrackets := Fld.other W53 G_crossingBrackets (Or.inr (slot_ne (Or.inl (hw _ (List.mem_of_getElem? (i := 86) rfl))) (Or.inl (hw _ (List.mem_of_getElem? (i := 101) rfl))) (by decide) (t := .long) (t' := .int) (by decide) (by decide)))
            replace G_completeMatches := Fld.other W53 G_completeMatches (Or.inr (slot_ne (Or.inl (hw _ (List.mem_of_getElem? (i := 130) rfl))) (Or.inl (hw _ (List.mem_of_getElem? (i := 101) rfl))) (by decide) (t := .int) (t' := .int) (by decide) (by decide)))
            replace G_withoutCrossing := Fld.other W53 G_withoutCrossing (Or.inr (slot_ne (Or.inl (hw _ (List.mem_of_getElem? (i := 99) rfl))) (Or.inl (hw _ (List.mem_of_getElem? (i := 101) rfl))) (by decide) (t := .int) (t' := .int) (by decide) (by decide)))
            replace G_words := Fld.other W53 G_words (Or.inr (slot_ne (Or.inl (hw _ (List.mem_of_getElem? (i := 103) rfl))) (Or.inl (hw _ (List.mem_of_getElem? (i := 101) rfl))) (by decide) (t := .long) (t' := .int) (by decide) (by decide)))
            replace G_correctTags := Fld.other W53 G_correctTags (Or.inr (slot_ne (Or.inl (hw _ (List.mem_of_getElem? (i := 110) rfl))) (Or.inl (hw _ (List.mem_of_getElem? (i := 101) rfl))) (by decide) (t := .long) (t' := .int) (by decide) (by decide)))
            replace F_status := Fld.other W53 F_status (Or.inl (Ne.symm hne))
            replace F_goldBrackets := Fld.other W53 F_goldBrackets (Or.inl (Ne.symm hne))
            replace F_parsedBrackets := Fld.other W53 F_parsedBrackets (Or.inl (Ne.symm hne))
            replace F_matchedBrackets := Fld.other W53 F_matchedBrackets (Or.inl (Ne.symm hne))
            replace F_crossingBrackets := Fld.other W53 F_crossingBrackets (Or.inl (Ne.symm hne))
            replace F_words := Fld.other W53 F_words (Or.inl (Ne.symm hne))
            replace F_correctTags := Fld.other W53 F_correctTags (Or.inl (Ne.symm hne))
            replace G_withTwoOrLessCrossing := Fld.same W53 G_withTwoOrLessCrossing
            have K := Keep.wr K W53 (Or.inl (by simp))
            refine aloadN P d6_160 rfl rfl (n := 161) rfl ?_
            refine dup P d6_161 rfl (n := 162) rfl ?_
            refine getF P d6_162 (hw _ (List.mem_of_getElem? (i := 102) rfl)) G_words (n := 165) rfl ?_
            intro T P
            refine aloadN P d6_165 rfl rfl (n := 166) rfl ?_
            refine callV P d6_166 (a := b) (argsL := []) (rest := [(.long t10), (.ref a)]) (c_words l Z a0 hw b u6 h52 n0 P.low F_words) E_b (hw _ (List.mem_of_getElem? (i := 104) rfl)) (hw _ (List.mem_of_getElem? (i := 105) rfl)) (notFace_of_selects (args := #[]) (mvT P.hZ (hw _ (List.mem_of_getElem? (i := 107) rfl)))) (hw _ (List.mem_of_getElem? (i := 107) rfl)) (hw _ (List.mem_of_getElem? (i := 106) rfl)) (hw _ (List.mem_of_getElem? (i := 11) rfl)) (hw _ (List.mem_of_getElem? (i := 108) rfl)) (by decide) pd_2 rfl rfl rfl ⟨by decide, Nat.le_of_ble_eq_true rfl, by decide, by decide⟩ (n := 169) rfl (Ret.on ?_)
            intro T P
            refine i2l P d6_169 (n := 170) rfl ?_
            refine ladd P d6_170 (n := 171) rfl ?_
            refine putF P d6_171 (hw _ (List.mem_of_getElem? (i := 102) rfl)) G_words E_a (Or.inl (hw _ (List.mem_of_getElem? (i := 103) rfl))) (hw _ (List.mem_of_getElem? (i := 42) rfl)) (ty := .long) (by decide) rfl rfl lo (n := 174) rfl ?_
            intro T h54 P W55
            replace S_v := Sta.wr W55 S_v
            replace S_e := Sta.wr W55 S_e
            replace S_k := Sta.wr W55 S_k
            replace E_a := Exa.wr W55 E_a
            replace E_b := Exa.wr W55 E_b
            replace G_sentences := Fld.other W55 G_sentences (Or.inr (slot_ne (Or.inl (hw _ (List.mem_of_getElem? (i := 54) rfl))) (Or.inl (hw _ (List.mem_of_getElem? (i := 103) rfl))) (by decide) (t := .int) (t' := .long) (by decide) (by decide)))
            replace G_errors := Fld.other W55 G_errors (Or.inr (slot_ne (Or.inl (hw _ (List.mem_of_getElem? (i := 128) rfl))) (Or.inl (hw _ (List.mem_of_getElem? (i := 103) rfl))) (by decide) (t := .int) (t' := .long) (by decide) (by decide)))
            replace G_skipped := Fld.other W55 G_skipped (Or.inr (slot_ne (Or.inl (hw _ (List.mem_of_getElem? (i := 125) rfl))) (Or.inl (hw _ (List.mem_of_getElem? (i := 103) rfl))) (by decide) (t := .int) (t' := .long) (by decide) (by decide)))
            replace G_goldBrackets := Fld.other W55 G_goldBrackets (Or.inr (slot_ne (Or.inl (hw _ (List.mem_of_getElem? (i := 65) rfl))) (Or.inl (hw _ (List.mem_of_getElem? (i := 103) rfl))) (by decide) (t := .long) (t' := .long) (by decide) (by decide)))
            replace G_parsedBrackets := Fld.other W55 G_parsedBrackets (Or.inr (slot_ne (Or.inl (hw _ (List.mem_of_getElem? (i := 72) rfl))) (Or.inl (hw _ (List.mem_of_getElem? (i := 103) rfl))) (by decide) (t := .long) (t' := .long) (by decide) (by decide)))
            replace G_matchedBrackets := Fld.other W55 G_matchedBrackets (Or.inr (slot_ne (Or.inl (hw _ (List.mem_of_getElem? (i := 79) rfl))) (Or.inl (hw _ (List.mem_of_getElem? (i := 103) rfl))) (by decide) (t := .long) (t' := .long) (by decide) (by decide)))
            replace G_crossingBrackets := Fld.other W55 G_crossingBrackets (Or.inr (slot_ne (Or.inl (hw _ (List.mem_of_getElem? (i := 86) rfl))) (Or.inl (hw _ (List.mem_of_getElem? (i := 103) rfl))) (by decide) (t := .long) (t' := .long) (by decide) (by decide)))
            replace G_completeMatches := Fld.other W55 G_completeMatches (Or.inr (slot_ne (Or.inl (hw _ (List.mem_of_getElem? (i := 130) rfl))) (Or.inl (hw _ (List.mem_of_getElem? (i := 103) rfl))) (by decide) (t := .int) (t' := .long) (by decide) (by decide)))
            replace G_withoutCrossing := Fld.other W55 G_withoutCrossing (Or.inr (slot_ne (Or.inl (hw _ (List.mem_of_getElem? (i := 99) rfl))) (Or.inl (hw _ (List.mem_of_getElem? (i := 103) rfl))) (by decide) (t := .int) (t' := .long) (by decide) (by decide)))
            replace G_withTwoOrLessCrossing := Fld.other W55 G_withTwoOrLessCrossing (Or.inr (slot_ne (Or.inl (hw _ (List.mem_of_getElem? (i := 101) rfl))) (Or.inl (hw _ (List.mem_of_getElem? (i := 103) rfl))) (by decide) (t := .int) (t' := .long) (by decide) (by decide)))
            replace G_correctTags := Fld.other W55 G_correctTags (Or.inr (slot_ne (Or.inl (hw _ (List.mem_of_getElem? (i := 110) rfl))) (Or.inl (hw _ (List.mem_of_getElem? (i := 103) rfl))) (by decide) (t := .long) (t' := .long) (by decide) (by decide)))
            replace F_status := Fld.other W55 F_status (Or.inl (Ne.symm hne))
            replace F_goldBrackets := Fld.other W55 F_goldBrackets (Or.inl (Ne.symm hne))
            replace F_parsedBrackets := Fld.other W55 F_parsedBrackets (Or.inl (Ne.symm hne))
            replace F_matchedBrackets := Fld.other W55 F_matchedBrackets (Or.inl (Ne.symm hne))
            replace F_crossingBrackets := Fld.other W55 F_crossingBrackets (Or.inl (Ne.symm hne))
            replace F_words := Fld.other W55 F_words (Or.inl (Ne.symm hne))
            replace F_correctTags := Fld.other W55 F_correctTags (Or.inl (Ne.symm hne))
            replace G_words := Fld.same W55 G_words
            have K := Keep.wr K W55 (Or.inl (by simp))
            refine aloadN P d6_174 rfl rfl (n := 175) rfl ?_
            refine dup P d6_175 rfl (n := 176) rfl ?_
            refine getF P d6_176 (hw _ (List.mem_of_getElem? (i := 109) rfl)) G_correctTags (n := 179) rfl ?_
            intro T P
            refine aloadN P d6_179 rfl rfl (n := 180) rfl ?_
            refine callV P d6_180 (a := b) (argsL := []) (rest := [(.long t11), (.ref a)]) (c_correctTags l Z a0 hw b u7 h54 n0 P.low F_correctTags) E_b (hw _ (List.mem_of_getElem? (i := 111) rfl)) (hw _ (List.mem_of_getElem? (i := 112) rfl)) (notFace_of_selects (args := #[]) (mvT P.hZ (hw _ (List.mem_of_getElem? (i := 114) rfl)))) (hw _ (List.mem_of_getElem? (i := 114) rfl)) (hw _ (List.mem_of_getElem? (i := 113) rfl)) (hw _ (List.mem_of_getElem? (i := 11) rfl)) (hw _ (List.mem_of_getElem? (i := 115) rfl)) (by decide) pd_2 rfl rfl rfl ⟨by decide, Nat.le_of_ble_eq_true rfl, by decide, by decide⟩ (n := 183) rfl (Ret.on ?_)
            intro T P
            refine i2l P d6_183 (n := 184) rfl ?_
            refine ladd P d6_184 (n := 185) rfl ?_
            refine putF P d6_185 (hw _ (List.mem_of_getElem? (i := 109) rfl)) G_correctTags E_a (Or.inl (hw _ (List.mem_of_getElem? (i := 110) rfl))) (hw _ (List.mem_of_getElem? (i := 42) rfl)) (ty := .long) (by decide) rfl rfl lo (n := 188) rfl ?_
            intro T h56 P W57
            replace S_v := Sta.wr W57 S_v
            replace S_e := Sta.wr W57 S_e
            replace S_k := Sta.wr W57 S_k
            replace E_a := Exa.wr W57 E_a
            replace E_b := Exa.wr W57 E_b
            replace G_sentences := Fld.other W57 G_sentences (Or.inr (slot_ne (Or.inl (hw _ (List.mem_of_getElem? (i := 54) rfl))) (Or.inl (hw _ (List.mem_of_getElem? (i := 110) rfl))) (by decide) (t := .int) (t' := .long) (by decide) (by decide)))
            replace G_errors := Fld.other W57 G_errors (Or.inr (slot_ne (Or.inl (hw _ (List.mem_of_getElem? (i := 128) rfl))) (Or.inl (hw _ (List.mem_of_getElem? (i := 110) rfl))) (by decide) (t := .int) (t' := .long) (by decide) (by decide)))
            replace G_skipped := Fld.other W57 G_skipped (Or.inr (slot_ne (Or.inl (hw _ (List.mem_of_getElem? (i := 125) rfl))) (Or.inl (hw _ (List.mem_of_getElem? (i := 110) rfl))) (by decide) (t := .int) (t' := .long) (by decide) (by decide)))
            replace G_goldBrackets := Fld.other W57 G_goldBrackets (Or.inr (slot_ne (Or.inl (hw _ (List.mem_of_getElem? (i := 65) rfl))) (Or.inl (hw _ (List.mem_of_getElem? (i := 110) rfl))) (by decide) (t := .long) (t' := .long) (by decide) (by decide)))
            replace G_parsedBrackets := Fld.other W57 G_parsedBrackets (Or.inr (slot_ne (Or.inl (hw _ (List.mem_of_getElem? (i := 72) rfl))) (Or.inl (hw _ (List.mem_of_getElem? (i := 110) rfl))) (by decide) (t := .long) (t' := .long) (by decide) (by decide)))
            replace G_matchedBrackets := Fld.other W57 G_matchedBrackets (Or.inr (slot_ne (Or.inl (hw _ (List.mem_of_getElem? (i := 79) rfl))) (Or.inl (hw _ (List.mem_of_getElem? (i := 110) rfl))) (by decide) (t := .long) (t' := .long) (by decide) (by decide)))
            replace G_crossingBrackets := Fld.other W57 G_crossingBrackets (Or.inr (slot_ne (Or.inl (hw _ (List.mem_of_getElem? (i := 86) rfl))) (Or.inl (hw _ (List.mem_of_getElem? (i := 110) rfl))) (by decide) (t := .long) (t' := .long) (by decide) (by decide)))
            replace G_completeMatches := Fld.other W57 G_completeMatches (Or.inr (slot_ne (Or.inl (hw _ (List.mem_of_getElem? (i := 130) rfl))) (Or.inl (hw _ (List.mem_of_getElem? (i := 110) rfl))) (by decide) (t := .int) (t' := .long) (by decide) (by decide)))
            replace G_withoutCrossing := Fld.other W57 G_withoutCrossing (Or.inr (slot_ne (Or.inl (hw _ (List.mem_of_getElem? (i := 99) rfl))) (Or.inl (hw _ (List.mem_of_getElem? (i := 110) rfl))) (by decide) (t := .int) (t' := .long) (by decide) (by decide)))
            replace G_withTwoOrLessCrossing := Fld.other W57 G_withTwoOrLessCrossing (Or.inr (slot_ne (Or.inl (hw _ (List.mem_of_getElem? (i := 101) rfl))) (Or.inl (hw _ (List.mem_of_getElem? (i := 110) rfl))) (by decide) (t := .int) (t' := .long) (by decide) (by decide)))
            replace G_words := Fld.other W57 G_words (Or.inr (slot_ne (Or.inl (hw _ (List.mem_of_getElem? (i := 103) rfl))) (Or.inl (hw _ (List.mem_of_getElem? (i := 110) rfl))) (by decide) (t := .long) (t' := .long) (by decide) (by decide)))
            replace F_status := Fld.other W57 F_status (Or.inl (Ne.symm hne))
            replace F_goldBrackets := Fld.other W57 F_goldBrackets (Or.inl (Ne.symm hne))
            replace F_parsedBrackets := Fld.other W57 F_parsedBrackets (Or.inl (Ne.symm hne))
            replace F_matchedBrackets := Fld.other W57 F_matchedBrackets (Or.inl (Ne.symm hne))
            replace F_crossingBrackets := Fld.other W57 F_crossingBrackets (Or.inl (Ne.symm hne))
            replace F_words := Fld.other W57 F_words (Or.inl (Ne.symm hne))
            replace F_correctTags := Fld.other W57 F_correctTags (Or.inl (Ne.symm hne))
            replace G_correctTags := Fld.same W57 G_correctTags
            have K := Keep.wr K W57 (Or.inl (by simp))
            refine retV P d6_188 (by decide) (by decide) ?_
            refine ⟨rfl, K, fun q => ?_, fun _ => ⟨E_a, ⟨_, _, _, _, _, _, _, _, _, _, G_sentences, G_errors, G_skipped, G_goldBrackets, G_crossingBrackets, G_completeMatches, G_withoutCrossing, G_withTwoOrLessCrossing, G_words, G_correctTags⟩, G_parsedBrackets, G_matchedBrackets⟩⟩
            rcases q with q | q
            · exact absurd (congrArg Value.ref q) hc17
            · exact absurd (congrArg Value.ref q) hc38
    · -- pc 38 not taken
      replace hc38 := nF hc38
      refine aloadN P d6_41 rfl rfl (n := 42) rfl ?_
      refine dup P d6_42 rfl (n := 43) rfl ?_
      refine getF P d6_43 (hw _ (List.mem_of_getElem? (i := 124) rfl)) G_skipped (n := 46) rfl ?_
      intro T P
      refine iconst P d6_46 (x := (1 : Int32)) rfl (n := 47) rfl ?_
      refine iadd P d6_47 (n := 48) rfl ?_
      refine putF P d6_48 (hw _ (List.mem_of_getElem? (i := 124) rfl)) G_skipped E_a (Or.inl (hw _ (List.mem_of_getElem? (i := 125) rfl))) (hw _ (List.mem_of_getElem? (i := 42) rfl)) (ty := .int) (by decide) rfl rfl lo (n := 51) rfl ?_
      intro T h58 P W59
      replace S_v := Sta.wr W59 S_v
      replace S_e := Sta.wr W59 S_e
      replace S_k := Sta.wr W59 S_k
      replace E_a := Exa.wr W59 E_a
      replace E_b := Exa.wr W59 E_b
      replace G_sentences := Fld.other W59 G_sentences (Or.inr (slot_ne (Or.inl (hw _ (List.mem_of_getElem? (i := 54) rfl))) (Or.inl (hw _ (List.mem_of_getElem? (i := 125) rfl))) (by decide) (t := .int) (t' := .int) (by decide) (by decide)))
      replace G_errors := Fld.other W59 G_errors (Or.inr (slot_ne (Or.inl (hw _ (List.mem_of_getElem? (i := 128) rfl))) (Or.inl (hw _ (List.mem_of_getElem? (i := 125) rfl))) (by decide) (t := .int) (t' := .int) (by decide) (by decide)))
      replace G_goldBrackets := Fld.other W59 G_goldBrackets (Or.inr (slot_ne (Or.inl (hw _ (List.mem_of_getElem? (i := 65) rfl))) (Or.inl (hw _ (List.mem_of_getElem? (i := 125) rfl))) (by decide) (t := .long) (t' := .int) (by decide) (by decide)))
      replace G_parsedBrackets := Fld.other W59 G_parsedBrackets (Or.inr (slot_ne (Or.inl (hw _ (List.mem_of_getElem? (i := 72) rfl))) (Or.inl (hw _ (List.mem_of_getElem? (i := 125) rfl))) (by decide) (t := .long) (t' := .int) (by decide) (by decide)))
      replace G_matchedBrackets := Fld.other W59 G_matchedBrackets (Or.inr (slot_ne (Or.inl (hw _ (List.mem_of_getElem? (i := 79) rfl))) (Or.inl (hw _ (List.mem_of_getElem? (i := 125) rfl))) (by decide) (t := .long) (t' := .int) (by decide) (by decide)))
      replace G_crossingBrackets := Fld.other W59 G_crossingBrackets (Or.inr (slot_ne (Or.inl (hw _ (List.mem_of_getElem? (i := 86) rfl))) (Or.inl (hw _ (List.mem_of_getElem? (i := 125) rfl))) (by decide) (t := .long) (t' := .int) (by decide) (by decide)))
      replace G_completeMatches := Fld.other W59 G_completeMatches (Or.inr (slot_ne (Or.inl (hw _ (List.mem_of_getElem? (i := 130) rfl))) (Or.inl (hw _ (List.mem_of_getElem? (i := 125) rfl))) (by decide) (t := .int) (t' := .int) (by decide) (by decide)))
      replace G_withoutCrossing := Fld.other W59 G_withoutCrossing (Or.inr (slot_ne (Or.inl (hw _ (List.mem_of_getElem? (i := 99) rfl))) (Or.inl (hw _ (List.mem_of_getElem? (i := 125) rfl))) (by decide) (t := .int) (t' := .int) (by decide) (by decide)))
      replace G_withTwoOrLessCrossing := Fld.other W59 G_withTwoOrLessCrossing (Or.inr (slot_ne (Or.inl (hw _ (List.mem_of_getElem? (i := 101) rfl))) (Or.inl (hw _ (List.mem_of_getElem? (i := 125) rfl))) (by decide) (t := .int) (t' := .int) (by decide) (by decide)))
      replace G_words := Fld.other W59 G_words (Or.inr (slot_ne (Or.inl (hw _ (List.mem_of_getElem? (i := 103) rfl))) (Or.inl (hw _ (List.mem_of_getElem? (i := 125) rfl))) (by decide) (t := .long) (t' := .int) (by decide) (by decide)))
      replace G_correctTags := Fld.other W59 G_correctTags (Or.inr (slot_ne (Or.inl (hw _ (List.mem_of_getElem? (i := 110) rfl))) (Or.inl (hw _ (List.mem_of_getElem? (i := 125) rfl))) (by decide) (t := .long) (t' := .int) (by decide) (by decide)))
      replace F_status := Fld.other W59 F_status (Or.inl (Ne.symm hne))
      replace F_goldBrackets := Fld.other W59 F_goldBrackets (Or.inl (Ne.symm hne))
      replace F_parsedBrackets := Fld.other W59 F_parsedBrackets (Or.inl (Ne.symm hne))
      replace F_matchedBrackets := Fld.other W59 F_matchedBrackets (Or.inl (Ne.symm hne))
      replace F_crossingBrackets := Fld.other W59 F_crossingBrackets (Or.inl (Ne.symm hne))
      replace F_words := Fld.other W59 F_words (Or.inl (Ne.symm hne))
      replace F_correctTags := Fld.other W59 F_correctTags (Or.inl (Ne.symm hne))
      replace G_skipped := Fld.same W59 G_skipped
      have K := Keep.wr K W59 (Or.inl (by simp))
      refine retV P d6_51 (by decide) (by decide) ?_
      refine ⟨rfl, K, fun _ => ⟨E_a, ⟨_, _, _, _, _, _, _, _, _, _, G_sentences, G_errors, G_skipped, G_goldBrackets, G_crossingBrackets, G_completeMatches, G_withoutCrossing, G_withTwoOrLessCrossing, G_words, G_correctTags⟩, G_parsedBrackets, G_matchedBrackets⟩, fun q => absurd ?_ q⟩
      first | exact Or.inl (Value.ref.inj hc17) | exact Or.inr (Value.ref.inj hc38)
  · -- pc 17 not taken
    replace hc17 := nF hc17
    refine aloadN P d6_20 rfl rfl (n := 21) rfl ?_
    refine dup P d6_21 rfl (n := 22) rfl ?_
    refine getF P d6_22 (hw _ (List.mem_of_getElem? (i := 127) rfl)) G_errors (n := 25) rfl ?_
    intro T P
    refine iconst P d6_25 (x := (1 : Int32)) rfl (n := 26) rfl ?_
    refine iadd P d6_26 (n := 27) rfl ?_
    refine putF P d6_27 (hw _ (List.mem_of_getElem? (i := 127) rfl)) G_errors E_a (Or.inl (hw _ (List.mem_of_getElem? (i := 128) rfl))) (hw _ (List.mem_of_getElem? (i := 42) rfl)) (ty := .int) (by decide) rfl rfl lo (n := 30) rfl ?_
    intro T h60 P W61
    replace S_v := Sta.wr W61 S_v
    replace S_e := Sta.wr W61 S_e
    replace S_k := Sta.wr W61 S_k
    replace E_a := Exa.wr W61 E_a
    replace E_b := Exa.wr W61 E_b
    replace G_sentences := Fld.other W61 G_sentences (Or.inr (slot_ne (Or.inl (hw _ (List.mem_of_getElem? (i := 54) rfl))) (Or.inl (hw _ (List.mem_of_getElem? (i := 128) rfl))) (by decide) (t := .int) (t' := .int) (by decide) (by decide)))
    replace G_skipped := Fld.other W61 G_skipped (Or.inr (slot_ne (Or.inl (hw _ (List.mem_of_getElem? (i := 125) rfl))) (Or.inl (hw _ (List.mem_of_getElem? (i := 128) rfl))) (by decide) (t := .int) (t' := .int) (by decide) (by decide)))
    replace G_goldBrackets := Fld.other W61 G_goldBrackets (Or.inr (slot_ne (Or.inl (hw _ (List.mem_of_getElem? (i := 65) rfl))) (Or.inl (hw _ (List.mem_of_getElem? (i := 128) rfl))) (by decide) (t := .long) (t' := .int) (by decide) (by decide)))
    replace G_parsedBrackets := Fld.other W61 G_parsedBrackets (Or.inr (slot_ne (Or.inl (hw _ (List.mem_of_getElem? (i := 72) rfl))) (Or.inl (hw _ (List.mem_of_getElem? (i := 128) rfl))) (by decide) (t := .long) (t' := .int) (by decide) (by decide)))
    replace G_matchedBrackets := Fld.other W61 G_matchedBrackets (Or.inr (slot_ne (Or.inl (hw _ (List.mem_of_getElem? (i := 79) rfl))) (Or.inl (hw _ (List.mem_of_getElem? (i := 128) rfl))) (by decide) (t := .long) (t' := .int) (by decide) (by decide)))
    replace G_crossingBrackets := Fld.other W61 G_crossingBrackets (Or.inr (slot_ne (Or.inl (hw _ (List.mem_of_getElem? (i := 86) rfl))) (Or.inl (hw _ (List.mem_of_getElem? (i := 128) rfl))) (by decide) (t := .long) (t' := .int) (by decide) (by decide)))
    replace G_completeMatches := Fld.other W61 G_completeMatches (Or.inr (slot_ne (Or.inl (hw _ (List.mem_of_getElem? (i := 130) rfl))) (Or.inl (hw _ (List.mem_of_getElem? (i := 128) rfl))) (by decide) (t := .int) (t' := .int) (by decide) (by decide)))
    replace G_withoutCrossing := Fld.other W61 G_withoutCrossing (Or.inr (slot_ne (Or.inl (hw _ (List.mem_of_getElem? (i := 99) rfl))) (Or.inl (hw _ (List.mem_of_getElem? (i := 128) rfl))) (by decide) (t := .int) (t' := .int) (by decide) (by decide)))
    replace G_withTwoOrLessCrossing := Fld.other W61 G_withTwoOrLessCrossing (Or.inr (slot_ne (Or.inl (hw _ (List.mem_of_getElem? (i := 101) rfl))) (Or.inl (hw _ (List.mem_of_getElem? (i := 128) rfl))) (by decide) (t := .int) (t' := .int) (by decide) (by decide)))
    replace G_words := Fld.other W61 G_words (Or.inr (slot_ne (Or.inl (hw _ (List.mem_of_getElem? (i := 103) rfl))) (Or.inl (hw _ (List.mem_of_getElem? (i := 128) rfl))) (by decide) (t := .long) (t' := .int) (by decide) (by decide)))
    replace G_correctTags := Fld.other W61 G_correctTags (Or.inr (slot_ne (Or.inl (hw _ (List.mem_of_getElem? (i := 110) rfl))) (Or.inl (hw _ (List.mem_of_getElem? (i := 128) rfl))) (by decide) (t := .long) (t' := .int) (by decide) (by decide)))
    replace F_status := Fld.other W61 F_status (Or.inl (Ne.symm hne))
    replace F_goldBrackets := Fld.other W61 F_goldBrackets (Or.inl (Ne.symm hne))
    replace F_parsedBrackets := Fld.other W61 F_parsedBrackets (Or.inl (Ne.symm hne))
    replace F_matchedBrackets := Fld.other W61 F_matchedBrackets (Or.inl (Ne.symm hne))
    replace F_crossingBrackets := Fld.other W61 F_crossingBrackets (Or.inl (Ne.symm hne))
    replace F_words := Fld.other W61 F_words (Or.inl (Ne.symm hne))
    replace F_correctTags := Fld.other W61 F_correctTags (Or.inl (Ne.symm hne))
    replace G_errors := Fld.same W61 G_errors
    have K := Keep.wr K W61 (Or.inl (by simp))
    refine retV P d6_30 (by decide) (by decide) ?_
    refine ⟨rfl, K, fun _ => ⟨E_a, ⟨_, _, _, _, _, _, _, _, _, _, G_sentences, G_errors, G_skipped, G_goldBrackets, G_crossingBrackets, G_completeMatches, G_withoutCrossing, G_withTwoOrLessCrossing, G_words, G_correctTags⟩, G_parsedBrackets, G_matchedBrackets⟩, fun q => absurd ?_ q⟩
    first | exact Or.inl (Value.ref.inj hc17) | exact Or.inr (Value.ref.inj hc38)
def own_prec (pm mm : Int64) : UInt64 := if 0 < pm.toInt then FP.ddiv (FP.dmul 4636737291354636288 (FP.l2d mm)) (FP.l2d pm) else 0
theorem own_m1 (mm : Int64) : Jvm.Free.Fl.Mag64 (1031 + 1088 - 1025 + 3) (FP.dmul 4636737291354636288 (FP.l2d mm)) := Jvm.Free.Fl.dmul_mag (by unfold Jvm.Free.Fl.Mag64; decide) (Jvm.Free.Fl.l2d_mag mm) (by decide) (by decide)
theorem own_m2 (pm mm : Int64) (h : 0 < pm.toInt) : Jvm.Free.Fl.Mag64 (1031 + 1088 - 1025 + 3 + 1021 - 1023 + 3) (FP.ddiv (FP.dmul 4636737291354636288 (FP.l2d mm)) (FP.l2d pm)) := Jvm.RoadKit.ddiv_mag (own_m1 mm) (Jvm.RoadKit.l2d_big (fun q => by rw [q] at h; exact absurd h (by decide))) (by decide) (by decide)
theorem own_n1 (mm : Int64) : Jvm.Free.Fl.NoNaN64 (FP.dmul 4636737291354636288 (FP.l2d mm)) := ((own_m1 mm).fin (by decide)).noNaN
theorem own_n2 (pm mm : Int64) (h : 0 < pm.toInt) : Jvm.Free.Fl.NoNaN64 (FP.ddiv (FP.dmul 4636737291354636288 (FP.l2d mm)) (FP.l2d pm)) := ((own_m2 pm mm h).fin (by decide)).noNaN
theorem own_n (pm mm : Int64) : Jvm.Free.Fl.NoNaN64 (own_prec pm mm) := by
  unfold own_prec; split
  · exact own_n2 _ _ ‹_›
  · decide
theorem d15_0 : decode prog_90_method_8_code 0 = .ok (.aload_n 0, 1) := by decide +kernel
theorem d15_1 : decode prog_90_method_8_code 1 = .ok (.getfield 41, 3) := by decide +kernel
theorem d15_4 : decode prog_90_method_8_code 4 = .ok (.lconst 0, 1) := by decide +kernel
theorem d15_5 : decode prog_90_method_8_code 5 = .ok (.lcmp, 1) := by decide +kernel
theorem d15_6 : decode prog_90_method_8_code 6 = .ok (.ifCond .le 21, 3) := by decide +kernel
theorem d15_9 : decode prog_90_method_8_code 9 = .ok (.ldc2_w 79, 3) := by decide +kernel
theorem d15_12 : decode prog_90_method_8_code 12 = .ok (.aload_n 0, 1) := by decide +kernel
theorem d15_13 : decode prog_90_method_8_code 13 = .ok (.getfield 46, 3) := by decide +kernel
theorem d15_16 : decode prog_90_method_8_code 16 = .ok (.l2d, 1) := by decide +kernel
theorem d15_17 : decode prog_90_method_8_code 17 = .ok (.dmul, 1) := by decide +kernel
theorem d15_18 : decode prog_90_method_8_code 18 = .ok (.aload_n 0, 1) := by decide +kernel
theorem d15_19 : decode prog_90_method_8_code 19 = .ok (.getfield 41, 3) := by decide +kernel
theorem d15_22 : decode prog_90_method_8_code 22 = .ok (.l2d, 1) := by decide +kernel
theorem d15_23 : decode prog_90_method_8_code 23 = .ok (.ddiv, 1) := by decide +kernel
theorem d15_24 : decode prog_90_method_8_code 24 = .ok (.goto 4, 3) := by decide +kernel
theorem d15_27 : decode prog_90_method_8_code 27 = .ok (.dconst 0, 1) := by decide +kernel
theorem d15_28 : decode prog_90_method_8_code 28 = .ok (.dreturn, 1) := by decide +kernel
theorem ef_15 (m : MethodId) (a : Addr) : entryFrame m #[(.ref a)] 1 = mkF m 0 #[.val (.ref a)] [] := by first | (simp [entryFrame, mkF, argsToLocals, Value.category]; done) | rfl
abbrev rm_c_prec : Room := { frames := 0, cells := 0, slots := 0, locals := 0 }
set_option maxRecDepth 65536 in
set_option maxHeartbeats 40000000 in
theorem c_prec (l : Launch) (Z : State) (a0 : Array Value) (hw : ∀ d ∈ tables_1, d.before a0 Z = true) (a : Addr) (tp tm : Int64) (h0 : Heap) (n0 : Nat) (low : n0 ≤ h0.size) (G_p : Fld Z h0 a "com/example/spanwise/spanwise/trees/BracketTotals" "parsedBrackets" "J" (.long tp)) (G_m : Fld Z h0 a "com/example/spanwise/spanwise/trees/BracketTotals" "matchedBrackets" "J" (.long tm)) :
    Meth l Z (⟨"com/example/spanwise/spanwise/trees/BracketTotals", "precision", "()D"⟩ : MethodName) prog_90_method_8_code 1 (some .double) rm_c_prec #[(.ref a)] h0 n0 (Ret (.double (own_prec tp tm)) h0) := by
  refine Meth.of (plainFor_of_name pn_3) low ?_
  intro p e s m args below meth c T P
  refine Ends.cast (ef_15 m a) ?_
  refine aloadN P d15_0 rfl rfl (n := 1) rfl ?_
  refine getF P d15_1 (hw _ (List.mem_of_getElem? (i := 71) rfl)) G_p (n := 4) rfl ?_
  intro T P
  refine lconst P d15_4 (x := (0 : Int64)) rfl (n := 5) rfl ?_
  refine lcmp P d15_5 (n := 6) rfl ?_
  refine ifl_le P d15_6 (n' := 27) (n := 9) (by decide) rfl (fun hc6 => ?_) (fun hc6 => ?_)
  · -- pc 6 taken
    replace hc6 : tp.toInt ≤ (0 : Int) := hc6
    refine dconst0 P d15_27 (n := 28) rfl ?_
    refine retD P d15_28 (by decide) (by decide) ?_
    refine Ret.ofA ?_
    unfold own_prec
    first | rw [if_pos (by omega)] | rw [if_neg (by omega)]
  · -- pc 6 not taken
    replace hc6 : (0 : Int) < tp.toInt := hc6
    refine ldc2D P d15_9 (hw _ (List.mem_of_getElem? (i := 121) rfl)) (n := 12) rfl ?_
    refine aloadN P d15_12 rfl rfl (n := 13) rfl ?_
    refine getF P d15_13 (hw _ (List.mem_of_getElem? (i := 78) rfl)) G_m (n := 16) rfl ?_
    intro T P
    refine l2d P d15_16 (n := 17) rfl ?_
    refine dmul P d15_17 (own_n1 tm) (n := 18) rfl ?_
    refine aloadN P d15_18 rfl rfl (n := 19) rfl ?_
    refine getF P d15_19 (hw _ (List.mem_of_getElem? (i := 71) rfl)) G_p (n := 22) rfl ?_
    intro T P
    refine l2d P d15_22 (n := 23) rfl ?_
    refine ddiv P d15_23 (own_n2 _ _ (by omega)) (n := 24) rfl ?_
    refine goto P d15_24 (n := 28) (by decide) ?_
    refine retD P d15_28 (by decide) (by decide) ?_
    refine Ret.ofA ?_
    unfold own_prec
    first | rw [if_pos (by omega)] | rw [if_neg (by omega)]
theorem ef_0 (m : MethodId) (p0 : Int32) (p1 : Int32) (p2 : Int32) (p3 : Int32) (p4 : Int32) (p5 : Int32) : entryFrame m #[(.int p0), (.int p1), (.int p2), (.int p3), (.int p4), (.int p5)] maxLocals = mkF m 0 #[.val (.int p0), .val (.int p1), .val (.int p2), .val (.int p3), .val (.int p4), .val (.int p5), .unset, .unset, .unset, .unset, .unset, .unset, .unset, .unset, .unset, .unset, .unset, .unset, .unset, .unset, .unset, .unset, .unset, .unset, .unset, .unset, .unset, .unset] [] := by first | (simp [entryFrame, mkF, argsToLocals, Value.category, maxLocals]; done) | rfl
theorem pd_4 : parseMethodDescriptor "(I)Lcom/example/spanwise/spanwise/trees/SentenceScore$Status;" = some ⟨[.int], some (.object "com/example/spanwise/spanwise/trees/SentenceScore$Status")⟩ := by decide +kernel
theorem pd_5 : parseMethodDescriptor "(Lcom/example/spanwise/spanwise/trees/SentenceScore$Status;IIIIIIILcom/example/spanwise/spanwise/trees/SentenceScore$Mismatch;)V" = some ⟨[(.object "com/example/spanwise/spanwise/trees/SentenceScore$Status"), .int, .int, .int, .int, .int, .int, .int, (.object "com/example/spanwise/spanwise/trees/SentenceScore$Mismatch")], none⟩ := by decide +kernel
theorem pd_6 : parseMethodDescriptor "(Lcom/example/spanwise/spanwise/trees/SentenceScore;)V" = some ⟨[(.object "com/example/spanwise/spanwise/trees/SentenceScore")], none⟩ := by decide +kernel
theorem pd_7 : parseMethodDescriptor "()D" = some ⟨[], some .double⟩ := by decide +kernel
set_option maxRecDepth 65536 in
set_option maxHeartbeats 40000000 in
theorem rm_law (l : Launch) (Z : State) (a0 : Array Value) (hw : ∀ d ∈ tables_1, d.before a0 Z = true) (p0 : Int32) (p1 : Int32) (p2 : Int32) (p3 : Int32) (p4 : Int32) (p5 : Int32) (xv xe xk : Addr) (h0 : Heap) (n0 : Nat) (low : n0 ≤ h0.size) (S_v : Sta Z Z.heap "com/example/spanwise/spanwise/trees/SentenceScore$Status" "VALID" "Lcom/example/spanwise/spanwise/trees/SentenceScore$Status;" (.ref xv)) (S_e : Sta Z Z.heap "com/example/spanwise/spanwise/trees/SentenceScore$Status" "ERROR" "Lcom/example/spanwise/spanwise/trees/SentenceScore$Status;" (.ref xe)) (S_k : Sta Z Z.heap "com/example/spanwise/spanwise/trees/SentenceScore$Status" "SKIPPED" "Lcom/example/spanwise/spanwise/trees/SentenceScore$Status;" (.ref xk)) (hve : xv ≠ xe) (hvk : xv ≠ xk) (Old9 : Old Z n0 h0) :
    Meth l Z x code maxLocals ret room_1 #[(.int p0), (.int p1), (.int p2), (.int p3), (.int p4), (.int p5)] h0 n0 (fun v _ => v = some (.int 1)) := by
  refine Meth.of (plainFor_of_name pn_1) low ?_
  intro p e s m args below meth c T P
  refine Ends.cast (ef_0 m p0 p1 p2 p3 p4 p5) ?_
  refine iload P at_0 rfl (n := 2) rfl ?_
  refine iconst P at_2 (x := (4 : Int32)) rfl (n := 3) rfl ?_
  refine ishr P at_3 (n := 4) rfl ?_
  refine nameI (x := (p5 >>> ((4 : Int32) &&& 31))) (F := fun z1 => Jvm.Own.Ends p e below s room_1 n0 (fun v _ => v = some (.int 1)) T (mkF m 4 #[.val (.int p0), .val (.int p1), .val (.int p2), .val (.int p3), .val (.int p4), .val (.int p5), .unset, .unset, .unset, .unset, .unset, .unset, .unset, .unset, .unset, .unset, .unset, .unset, .unset, .unset, .unset, .unset, .unset, .unset, .unset, .unset, .unset, .unset] [(.int z1)])) ?_
  intro z1 hz1
  have tz1 : z1.toInt = p5.toInt / 16 := n_ishr 4 hz1 rfl (by decide)
  refine iconst P at_4 (x := (3 : Int32)) rfl (n := 5) rfl ?_
  refine iand P at_5 (n := 6) rfl ?_
  refine nameI (x := (z1 &&& (3 : Int32))) (F := fun z2 => Jvm.Own.Ends p e below s room_1 n0 (fun v _ => v = some (.int 1)) T (mkF m 6 #[.val (.int p0), .val (.int p1), .val (.int p2), .val (.int p3), .val (.int p4), .val (.int p5), .unset, .unset, .unset, .unset, .unset, .unset, .unset, .unset, .unset, .unset, .unset, .unset, .unset, .unset, .unset, .unset, .unset, .unset, .unset, .unset, .unset, .unset] [(.int z2)])) ?_
  intro z2 hz2
  have tz2 : z2.toInt = z1.toInt % 4 := n_mask 2 hz2 rfl (by decide)
  refine istore P at_6 (l' := #[.val (.int p0), .val (.int p1), .val (.int p2), .val (.int p3), .val (.int p4), .val (.int p5), .val (.int z2), .unset, .unset, .unset, .unset, .unset, .unset, .unset, .unset, .unset, .unset, .unset, .unset, .unset, .unset, .unset, .unset, .unset, .unset, .unset, .unset, .unset]) rfl (n := 8) rfl ?_
  refine iload P at_8 rfl (n := 10) rfl ?_
  refine iconst P at_10 (x := (3 : Int32)) rfl (n := 11) rfl ?_
  refine iand P at_11 (n := 12) rfl ?_
  refine nameI (x := (p5 &&& (3 : Int32))) (F := fun z3 => Jvm.Own.Ends p e below s room_1 n0 (fun v _ => v = some (.int 1)) T (mkF m 12 #[.val (.int p0), .val (.int p1), .val (.int p2), .val (.int p3), .val (.int p4), .val (.int p5), .val (.int z2), .unset, .unset, .unset, .unset, .unset, .unset, .unset, .unset, .unset, .unset, .unset, .unset, .unset, .unset, .unset, .unset, .unset, .unset, .unset, .unset, .unset] [(.int z3)])) ?_
  intro z3 hz3
  have tz3 : z3.toInt = p5.toInt % 4 := n_mask 2 hz3 rfl (by decide)
  refine istore P at_12 (l' := #[.val (.int p0), .val (.int p1), .val (.int p2), .val (.int p3), .val (.int p4), .val (.int p5), .val (.int z2), .val (.int z3), .unset, .unset, .unset, .unset, .unset, .unset, .unset, .unset, .unset, .unset, .unset, .unset, .unset, .unset, .unset, .unset, .unset, .unset, .unset, .unset]) rfl (n := 14) rfl ?_
  refine iloadN P at_14 rfl (n := 15) rfl ?_
  refine ldcI P at_15 (hw _ (List.mem_of_getElem? (i := 0) rfl)) (n := 17) rfl ?_
  refine iand P at_17 (n := 18) rfl ?_
  refine nameI (x := (p1 &&& (2147483647 : Int32))) (F := fun z4 => Jvm.Own.Ends p e below s room_1 n0 (fun v _ => v = some (.int 1)) T (mkF m 18 #[.val (.int p0), .val (.int p1), .val (.int p2), .val (.int p3), .val (.int p4), .val (.int p5), .val (.int z2), .val (.int z3), .unset, .unset, .unset, .unset, .unset, .unset, .unset, .unset, .unset, .unset, .unset, .unset, .unset, .unset, .unset, .unset, .unset, .unset, .unset, .unset] [(.int z4)])) ?_
  intro z4 hz4
  have tz4 : z4.toInt = p1.toInt % 2147483648 := n_mask 31 hz4 rfl (by decide)
  refine istore P at_18 (l' := #[.val (.int p0), .val (.int p1), .val (.int p2), .val (.int p3), .val (.int p4), .val (.int p5), .val (.int z2), .val (.int z3), .val (.int z4), .unset, .unset, .unset, .unset, .unset, .unset, .unset, .unset, .unset, .unset, .unset, .unset, .unset, .unset, .unset, .unset, .unset, .unset, .unset]) rfl (n := 20) rfl ?_
  refine iloadN P at_20 rfl (n := 21) rfl ?_
  refine i2l P at_21 (n := 22) rfl ?_
  refine nameI (x := (p2.toInt64)) (F := fun z5 => Jvm.Own.Ends p e below s room_1 n0 (fun v _ => v = some (.int 1)) T (mkF m 22 #[.val (.int p0), .val (.int p1), .val (.int p2), .val (.int p3), .val (.int p4), .val (.int p5), .val (.int z2), .val (.int z3), .val (.int z4), .unset, .unset, .unset, .unset, .unset, .unset, .unset, .unset, .unset, .unset, .unset, .unset, .unset, .unset, .unset, .unset, .unset, .unset, .unset] [(.long z5)])) ?_
  intro z5 hz5
  have tz5 : z5.toInt = p2.toInt := n_i2l hz5 rfl
  refine ldc2J P at_22 (hw _ (List.mem_of_getElem? (i := 1) rfl)) (n := 25) rfl ?_
  refine land P at_25 (n := 26) rfl ?_
  refine nameI (x := (z5 &&& (2147483647 : Int64))) (F := fun z6 => Jvm.Own.Ends p e below s room_1 n0 (fun v _ => v = some (.int 1)) T (mkF m 26 #[.val (.int p0), .val (.int p1), .val (.int p2), .val (.int p3), .val (.int p4), .val (.int p5), .val (.int z2), .val (.int z3), .val (.int z4), .unset, .unset, .unset, .unset, .unset, .unset, .unset, .unset, .unset, .unset, .unset, .unset, .unset, .unset, .unset, .unset, .unset, .unset, .unset] [(.long z6)])) ?_
  intro z6 hz6
  have tz6 : z6.toInt = z5.toInt % 2147483648 := n_maskL 31 hz6 rfl (by decide)
  refine iload P at_26 rfl (n := 28) rfl ?_
  refine i2l P at_28 (n := 29) rfl ?_
  refine nameI (x := (z4.toInt64)) (F := fun z7 => Jvm.Own.Ends p e below s room_1 n0 (fun v _ => v = some (.int 1)) T (mkF m 29 #[.val (.int p0), .val (.int p1), .val (.int p2), .val (.int p3), .val (.int p4), .val (.int p5), .val (.int z2), .val (.int z3), .val (.int z4), .unset, .unset, .unset, .unset, .unset, .unset, .unset, .unset, .unset, .unset, .unset, .unset, .unset, .unset, .unset, .unset, .unset, .unset, .unset] [(.long z7), (.long z6)])) ?_
  intro z7 hz7
  have tz7 : z7.toInt = z4.toInt := n_i2l hz7 rfl
  refine lconst P at_29 (x := (1 : Int64)) rfl (n := 30) rfl ?_
  refine ladd P at_30 (n := 31) rfl ?_
  refine nameI (x := (z7 + (1 : Int64))) (F := fun z8 => Jvm.Own.Ends p e below s room_1 n0 (fun v _ => v = some (.int 1)) T (mkF m 31 #[.val (.int p0), .val (.int p1), .val (.int p2), .val (.int p3), .val (.int p4), .val (.int p5), .val (.int z2), .val (.int z3), .val (.int z4), .unset, .unset, .unset, .unset, .unset, .unset, .unset, .unset, .unset, .unset, .unset, .unset, .unset, .unset, .unset, .unset, .unset, .unset, .unset] [(.long z8), (.long z6)])) ?_
  intro z8 hz8
  have tz8 : z8.toInt = z7.toInt + (1 : Int) := n_ladd hz8 rfl rfl (by omega)
  refine lrem P at_31 (nzL (by omega)) (n := 32) rfl ?_
  refine l2i P at_32 (n := 33) rfl ?_
  refine istore P at_33 (l' := #[.val (.int p0), .val (.int p1), .val (.int p2), .val (.int p3), .val (.int p4), .val (.int p5), .val (.int z2), .val (.int z3), .val (.int z4), .val (.int ((z6 - (z6 / z8) * z8).toInt32)), .unset, .unset, .unset, .unset, .unset, .unset, .unset, .unset, .unset, .unset, .unset, .unset, .unset, .unset, .unset, .unset, .unset, .unset]) rfl (n := 35) rfl ?_
  refine iloadN P at_35 rfl (n := 36) rfl ?_
  refine ldcI P at_36 (hw _ (List.mem_of_getElem? (i := 0) rfl)) (n := 38) rfl ?_
  refine iand P at_38 (n := 39) rfl ?_
  refine nameI (x := (p3 &&& (2147483647 : Int32))) (F := fun z9 => Jvm.Own.Ends p e below s room_1 n0 (fun v _ => v = some (.int 1)) T (mkF m 39 #[.val (.int p0), .val (.int p1), .val (.int p2), .val (.int p3), .val (.int p4), .val (.int p5), .val (.int z2), .val (.int z3), .val (.int z4), .val (.int ((z6 - (z6 / z8) * z8).toInt32)), .unset, .unset, .unset, .unset, .unset, .unset, .unset, .unset, .unset, .unset, .unset, .unset, .unset, .unset, .unset, .unset, .unset, .unset] [(.int z9)])) ?_
  intro z9 hz9
  have tz9 : z9.toInt = p3.toInt % 2147483648 := n_mask 31 hz9 rfl (by decide)
  refine istore P at_39 (l' := #[.val (.int p0), .val (.int p1), .val (.int p2), .val (.int p3), .val (.int p4), .val (.int p5), .val (.int z2), .val (.int z3), .val (.int z4), .val (.int ((z6 - (z6 / z8) * z8).toInt32)), .val (.int z9), .unset, .unset, .unset, .unset, .unset, .unset, .unset, .unset, .unset, .unset, .unset, .unset, .unset, .unset, .unset, .unset, .unset]) rfl (n := 41) rfl ?_
  refine iload P at_41 rfl (n := 43) rfl ?_
  refine i2l P at_43 (n := 44) rfl ?_
  refine nameI (x := (p4.toInt64)) (F := fun z10 => Jvm.Own.Ends p e below s room_1 n0 (fun v _ => v = some (.int 1)) T (mkF m 44 #[.val (.int p0), .val (.int p1), .val (.int p2), .val (.int p3), .val (.int p4), .val (.int p5), .val (.int z2), .val (.int z3), .val (.int z4), .val (.int ((z6 - (z6 / z8) * z8).toInt32)), .val (.int z9), .unset, .unset, .unset, .unset, .unset, .unset, .unset, .unset, .unset, .unset, .unset, .unset, .unset, .unset, .unset, .unset, .unset] [(.long z10)])) ?_
  intro z10 hz10
  have tz10 : z10.toInt = p4.toInt := n_i2l hz10 rfl
  refine ldc2J P at_44 (hw _ (List.mem_of_getElem? (i := 1) rfl)) (n := 47) rfl ?_
  refine land P at_47 (n := 48) rfl ?_
  refine nameI (x := (z10 &&& (2147483647 : Int64))) (F := fun z11 => Jvm.Own.Ends p e below s room_1 n0 (fun v _ => v = some (.int 1)) T (mkF m 48 #[.val (.int p0), .val (.int p1), .val (.int p2), .val (.int p3), .val (.int p4), .val (.int p5), .val (.int z2), .val (.int z3), .val (.int z4), .val (.int ((z6 - (z6 / z8) * z8).toInt32)), .val (.int z9), .unset, .unset, .unset, .unset, .unset, .unset, .unset, .unset, .unset, .unset, .unset, .unset, .unset, .unset, .unset, .unset, .unset] [(.long z11)])) ?_
  intro z11 hz11
  have tz11 : z11.toInt = z10.toInt % 2147483648 := n_maskL 31 hz11 rfl (by decide)
  refine iload P at_48 rfl (n := 50) rfl ?_
  refine i2l P at_50 (n := 51) rfl ?_
  refine nameI (x := (z9.toInt64)) (F := fun z12 => Jvm.Own.Ends p e below s room_1 n0 (fun v _ => v = some (.int 1)) T (mkF m 51 #[.val (.int p0), .val (.int p1), .val (.int p2), .val (.int p3), .val (.int p4), .val (.int p5), .val (.int z2), .val (.int z3), .val (.int z4), .val (.int ((z6 - (z6 / z8) * z8).toInt32)), .val (.int z9), .unset, .unset, .unset, .unset, .unset, .unset, .unset, .unset, .unset, .unset, .unset, .unset, .unset, .unset, .unset, .unset, .unset] [(.long z12), (.long z11)])) ?_
  intro z12 hz12
  have tz12 : z12.toInt = z9.toInt := n_i2l hz12 rfl
  refine lconst P at_51 (x := (1 : Int64)) rfl (n := 52) rfl ?_
  refine ladd P at_52 (n := 53) rfl ?_
  refine nameI (x := (z12 + (1 : Int64))) (F := fun z13 => Jvm.Own.Ends p e below s room_1 n0 (fun v _ => v = some (.int 1)) T (mkF m 53 #[.val (.int p0), .val (.int p1), .val (.int p2), .val (.int p3), .val (.int p4), .val (.int p5), .val (.int z2), .val (.int z3), .val (.int z4), .val (.int ((z6 - (z6 / z8) * z8).toInt32)), .val (.int z9), .unset, .unset, .unset, .unset, .unset, .unset, .unset, .unset, .unset, .unset, .unset, .unset, .unset, .unset, .unset, .unset, .unset] [(.long z13), (.long z11)])) ?_
  intro z13 hz13
  have tz13 : z13.toInt = z12.toInt + (1 : Int) := n_ladd hz13 rfl rfl (by omega)
  refine lrem P at_53 (nzL (by omega)) (n := 54) rfl ?_
  refine l2i P at_54 (n := 55) rfl ?_
  refine istore P at_55 (l' := #[.val (.int p0), .val (.int p1), .val (.int p2), .val (.int p3), .val (.int p4), .val (.int p5), .val (.int z2), .val (.int z3), .val (.int z4), .val (.int ((z6 - (z6 / z8) * z8).toInt32)), .val (.int z9), .val (.int ((z11 - (z11 / z13) * z13).toInt32)), .unset, .unset, .unset, .unset, .unset, .unset, .unset, .unset, .unset, .unset, .unset, .unset, .unset, .unset, .unset, .unset]) rfl (n := 57) rfl ?_
  have J1 : ∀ j1_8 j1_9 : Int32, Jvm.Own.Ends p e below s room_1 n0 (fun v _ => v = some (.int 1)) T (mkF m 72 #[.val (.int p0), .val (.int p1), .val (.int p2), .val (.int p3), .val (.int p4), .val (.int p5), .val (.int z2), .val (.int z3), .val (.int j1_8), .val (.int j1_9), .val (.int z9), .val (.int ((z11 - (z11 / z13) * z13).toInt32)), .unset, .unset, .unset, .unset, .unset, .unset, .unset, .unset, .unset, .unset, .unset, .unset, .unset, .unset, .unset, .unset] []) := by
    intro j1_8 j1_9
    have J2 : ∀ j2_10 j2_11 : Int32, Jvm.Own.Ends p e below s room_1 n0 (fun v _ => v = some (.int 1)) T (mkF m 87 #[.val (.int p0), .val (.int p1), .val (.int p2), .val (.int p3), .val (.int p4), .val (.int p5), .val (.int z2), .val (.int z3), .val (.int j1_8), .val (.int j1_9), .val (.int j2_10), .val (.int j2_11), .unset, .unset, .unset, .unset, .unset, .unset, .unset, .unset, .unset, .unset, .unset, .unset, .unset, .unset, .unset, .unset] []) := by
      intro j2_10 j2_11
      refine iloadN P at_87 rfl (n := 88) rfl ?_
      refine ldcI P at_88 (hw _ (List.mem_of_getElem? (i := 0) rfl)) (n := 90) rfl ?_
      refine iand P at_90 (n := 91) rfl ?_
      refine istore P at_91 (l' := #[.val (.int p0), .val (.int p1), .val (.int p2), .val (.int p3), .val (.int p4), .val (.int p5), .val (.int z2), .val (.int z3), .val (.int j1_8), .val (.int j1_9), .val (.int j2_10), .val (.int j2_11), .val (.int (p0 &&& (2147483647 : Int32))), .unset, .unset, .unset, .unset, .unset, .unset, .unset, .unset, .unset, .unset, .unset, .unset, .unset, .unset, .unset]) rfl (n := 93) rfl ?_
      refine iloadN P at_93 rfl (n := 94) rfl ?_
      refine bipush P at_94 (x := (8 : Int32)) rfl (n := 96) rfl ?_
      refine ishr P at_96 (n := 97) rfl ?_
      refine bipush P at_97 (x := (7 : Int32)) rfl (n := 99) rfl ?_
      refine iand P at_99 (n := 100) rfl ?_
      refine istore P at_100 (l' := #[.val (.int p0), .val (.int p1), .val (.int p2), .val (.int p3), .val (.int p4), .val (.int p5), .val (.int z2), .val (.int z3), .val (.int j1_8), .val (.int j1_9), .val (.int j2_10), .val (.int j2_11), .val (.int (p0 &&& (2147483647 : Int32))), .val (.int ((p0 >>> ((8 : Int32) &&& 31)) &&& (7 : Int32))), .unset, .unset, .unset, .unset, .unset, .unset, .unset, .unset, .unset, .unset, .unset, .unset, .unset, .unset]) rfl (n := 102) rfl ?_
      refine iloadN P at_102 rfl (n := 103) rfl ?_
      refine sipush P at_103 (x := (255 : Int32)) rfl (n := 106) rfl ?_
      refine iand P at_106 (n := 107) rfl ?_
      refine istore P at_107 (l' := #[.val (.int p0), .val (.int p1), .val (.int p2), .val (.int p3), .val (.int p4), .val (.int p5), .val (.int z2), .val (.int z3), .val (.int j1_8), .val (.int j1_9), .val (.int j2_10), .val (.int j2_11), .val (.int (p0 &&& (2147483647 : Int32))), .val (.int ((p0 >>> ((8 : Int32) &&& 31)) &&& (7 : Int32))), .val (.int (p0 &&& (255 : Int32))), .unset, .unset, .unset, .unset, .unset, .unset, .unset, .unset, .unset, .unset, .unset, .unset, .unset]) rfl (n := 109) rfl ?_
      refine iload P at_109 rfl (n := 111) rfl ?_
      refine callS P at_111 (argsL := [(.int z2)]) (rest := []) (c_stat l Z a0 hw z2 xv xe xk h0 n0 P.low (Sta.ext Old9.2 S_v) (Sta.ext Old9.2 S_e) (Sta.ext Old9.2 S_k)) (hw _ (List.mem_of_getElem? (i := 2) rfl)) (hw _ (List.mem_of_getElem? (i := 3) rfl)) (hw _ (List.mem_of_getElem? (i := 4) rfl)) (hw _ (List.mem_of_getElem? (i := 5) rfl)) (by decide) pd_4 rfl rfl rfl ⟨by decide, Nat.le_of_ble_eq_true rfl, by decide, by decide⟩ (n := 114) rfl (Ret.on ?_)
      intro T P
      refine astore P at_114 rfl (l' := #[.val (.int p0), .val (.int p1), .val (.int p2), .val (.int p3), .val (.int p4), .val (.int p5), .val (.int z2), .val (.int z3), .val (.int j1_8), .val (.int j1_9), .val (.int j2_10), .val (.int j2_11), .val (.int (p0 &&& (2147483647 : Int32))), .val (.int ((p0 >>> ((8 : Int32) &&& 31)) &&& (7 : Int32))), .val (.int (p0 &&& (255 : Int32))), .val (.ref (if z2.toInt = 1 then xe else if z2.toInt = 2 then xk else xv)), .unset, .unset, .unset, .unset, .unset, .unset, .unset, .unset, .unset, .unset, .unset, .unset]) rfl (n := 116) rfl ?_
      refine iload P at_116 rfl (n := 118) rfl ?_
      refine callS P at_118 (argsL := [(.int z3)]) (rest := []) (c_stat l Z a0 hw z3 xv xe xk h0 n0 P.low (Sta.ext Old9.2 S_v) (Sta.ext Old9.2 S_e) (Sta.ext Old9.2 S_k)) (hw _ (List.mem_of_getElem? (i := 2) rfl)) (hw _ (List.mem_of_getElem? (i := 3) rfl)) (hw _ (List.mem_of_getElem? (i := 4) rfl)) (hw _ (List.mem_of_getElem? (i := 5) rfl)) (by decide) pd_4 rfl rfl rfl ⟨by decide, Nat.le_of_ble_eq_true rfl, by decide, by decide⟩ (n := 121) rfl (Ret.on ?_)
      intro T P
      refine astore P at_121 rfl (l' := #[.val (.int p0), .val (.int p1), .val (.int p2), .val (.int p3), .val (.int p4), .val (.int p5), .val (.int z2), .val (.int z3), .val (.int j1_8), .val (.int j1_9), .val (.int j2_10), .val (.int j2_11), .val (.int (p0 &&& (2147483647 : Int32))), .val (.int ((p0 >>> ((8 : Int32) &&& 31)) &&& (7 : Int32))), .val (.int (p0 &&& (255 : Int32))), .val (.ref (if z2.toInt = 1 then xe else if z2.toInt = 2 then xk else xv)), .val (.ref (if z3.toInt = 1 then xe else if z3.toInt = 2 then xk else xv)), .unset, .unset, .unset, .unset, .unset, .unset, .unset, .unset, .unset, .unset, .unset]) rfl (n := 123) rfl ?_
      refine newO P at_123 (hw _ (List.mem_of_getElem? (i := 9) rfl)) (hw _ (List.mem_of_getElem? (i := 10) rfl)) (hw _ (List.mem_of_getElem? (i := 11) rfl)) (by decide) (by decide) (n := 126) rfl ?_
      intro T h15 b14 P X16 g17 lo_b14 E_b14 D_b14
      have F_b14_status := D_b14 (Or.inr (hw _ (List.mem_of_getElem? (i := 24) rfl))) (ty := (.object "com/example/spanwise/spanwise/trees/SentenceScore$Status")) (by decide)
      have F_b14_length := D_b14 (Or.inr (hw _ (List.mem_of_getElem? (i := 26) rfl))) (ty := .int) (by decide)
      have F_b14_goldBrackets := D_b14 (Or.inr (hw _ (List.mem_of_getElem? (i := 28) rfl))) (ty := .int) (by decide)
      have F_b14_parsedBrackets := D_b14 (Or.inr (hw _ (List.mem_of_getElem? (i := 30) rfl))) (ty := .int) (by decide)
      have F_b14_matchedBrackets := D_b14 (Or.inr (hw _ (List.mem_of_getElem? (i := 32) rfl))) (ty := .int) (by decide)
      have F_b14_crossingBrackets := D_b14 (Or.inr (hw _ (List.mem_of_getElem? (i := 34) rfl))) (ty := .int) (by decide)
      have F_b14_words := D_b14 (Or.inr (hw _ (List.mem_of_getElem? (i := 36) rfl))) (ty := .int) (by decide)
      have F_b14_correctTags := D_b14 (Or.inr (hw _ (List.mem_of_getElem? (i := 38) rfl))) (ty := .int) (by decide)
      have F_b14_mismatch := D_b14 (Or.inr (hw _ (List.mem_of_getElem? (i := 40) rfl))) (ty := (.object "com/example/spanwise/spanwise/trees/SentenceScore$Mismatch")) (by decide)
      replace Old9 := Old9.ext X16
      refine dup P at_126 rfl (n := 127) rfl ?_
      refine aload P at_127 rfl rfl (n := 129) rfl ?_
      refine iconst P at_129 (x := (0 : Int32)) rfl (n := 130) rfl ?_
      refine iload P at_130 rfl (n := 132) rfl ?_
      refine iload P at_132 rfl (n := 134) rfl ?_
      refine iload P at_134 rfl (n := 136) rfl ?_
      refine iload P at_136 rfl (n := 138) rfl ?_
      refine iload P at_138 rfl (n := 140) rfl ?_
      refine iload P at_140 rfl (n := 142) rfl ?_
      refine aconstNull P at_142 (n := 143) rfl ?_
      refine callN P at_143 (a := b14) (argsL := [(.ref (if z2.toInt = 1 then xe else if z2.toInt = 2 then xk else xv)), (.int (0 : Int32)), (.int (p0 &&& (2147483647 : Int32))), (.int j1_8), (.int j1_9), (.int ((p0 >>> ((8 : Int32) &&& 31)) &&& (7 : Int32))), (.int (p0 &&& (255 : Int32))), (.int (p0 &&& (255 : Int32))), .null]) (rest := [(.ref b14)]) (c_score l Z a0 hw b14 (if z2.toInt = 1 then xe else if z2.toInt = 2 then xk else xv) (0 : Int32) (p0 &&& (2147483647 : Int32)) j1_8 j1_9 ((p0 >>> ((8 : Int32) &&& 31)) &&& (7 : Int32)) (p0 &&& (255 : Int32)) (p0 &&& (255 : Int32)) h15 n0 P.low E_b14 F_b14_status F_b14_length F_b14_goldBrackets F_b14_parsedBrackets F_b14_matchedBrackets F_b14_crossingBrackets F_b14_words F_b14_correctTags F_b14_mismatch lo_b14) rfl (hw _ (List.mem_of_getElem? (i := 12) rfl)) (hw _ (List.mem_of_getElem? (i := 13) rfl)) (hw _ (List.mem_of_getElem? (i := 11) rfl)) (hw _ (List.mem_of_getElem? (i := 14) rfl)) (by decide) pd_5 rfl rfl rfl ⟨by decide, Nat.le_of_ble_eq_true rfl, by decide, by decide⟩ (n := 146) rfl ?_
      rintro T h18 v P ⟨rfl, K19, F_b14_status, F_b14_goldBrackets, F_b14_parsedBrackets, F_b14_matchedBrackets, F_b14_crossingBrackets, F_b14_words, F_b14_correctTags⟩
      replace E_b14 := Exa.keep E_b14 K19
      replace Old9 := Old.keep Old9 K19 (allS lo_b14 all0)
      show Jvm.Own.Ends p e below s room_1 n0 (fun v _ => v = some (.int 1)) T (mkF m 146 #[.val (.int p0), .val (.int p1), .val (.int p2), .val (.int p3), .val (.int p4), .val (.int p5), .val (.int z2), .val (.int z3), .val (.int j1_8), .val (.int j1_9), .val (.int j2_10), .val (.int j2_11), .val (.int (p0 &&& (2147483647 : Int32))), .val (.int ((p0 >>> ((8 : Int32) &&& 31)) &&& (7 : Int32))), .val (.int (p0 &&& (255 : Int32))), .val (.ref (if z2.toInt = 1 then xe else if z2.toInt = 2 then xk else xv)), .val (.ref (if z3.toInt = 1 then xe else if z3.toInt = 2 then xk else xv)), .unset, .unset, .unset, .unset, .unset, .unset, .unset, .unset, .unset, .unset, .unset] [(.ref b14)])
      refine astore P at_146 rfl (l' := #[.val (.int p0), .val (.int p1), .val (.int p2), .val (.int p3), .val (.int p4), .val (.int p5), .val (.int z2), .val (.int z3), .val (.int j1_8), .val (.int j1_9), .val (.int j2_10), .val (.int j2_11), .val (.int (p0 &&& (2147483647 : Int32))), .val (.int ((p0 >>> ((8 : Int32) &&& 31)) &&& (7 : Int32))), .val (.int (p0 &&& (255 : Int32))), .val (.ref (if z2.toInt = 1 then xe else if z2.toInt = 2 then xk else xv)), .val (.ref (if z3.toInt = 1 then xe else if z3.toInt = 2 then xk else xv)), .val (.ref b14), .unset, .unset, .unset, .unset, .unset, .unset, .unset, .unset, .unset, .unset]) rfl (n := 148) rfl ?_
      refine newO P at_148 (hw _ (List.mem_of_getElem? (i := 9) rfl)) (hw _ (List.mem_of_getElem? (i := 10) rfl)) (hw _ (List.mem_of_getElem? (i := 11) rfl)) (by decide) (by decide) (n := 151) rfl ?_
      intro T h21 b20 P X22 g23 lo_b20 E_b20 D_b20
      have ne_b14_b20 : b14 ≠ b20 := Nat.ne_of_lt (g23 ▸ E_b14.lt)
      replace E_b14 := Exa.ext X22 E_b14
      replace F_b14_status := Fld.ext X22 F_b14_status
      replace F_b14_goldBrackets := Fld.ext X22 F_b14_goldBrackets
      replace F_b14_parsedBrackets := Fld.ext X22 F_b14_parsedBrackets
      replace F_b14_matchedBrackets := Fld.ext X22 F_b14_matchedBrackets
      replace F_b14_crossingBrackets := Fld.ext X22 F_b14_crossingBrackets
      replace F_b14_words := Fld.ext X22 F_b14_words
      replace F_b14_correctTags := Fld.ext X22 F_b14_correctTags
      have F_b20_status := D_b20 (Or.inr (hw _ (List.mem_of_getElem? (i := 24) rfl))) (ty := (.object "com/example/spanwise/spanwise/trees/SentenceScore$Status")) (by decide)
      have F_b20_length := D_b20 (Or.inr (hw _ (List.mem_of_getElem? (i := 26) rfl))) (ty := .int) (by decide)
      have F_b20_goldBrackets := D_b20 (Or.inr (hw _ (List.mem_of_getElem? (i := 28) rfl))) (ty := .int) (by decide)
      have F_b20_parsedBrackets := D_b20 (Or.inr (hw _ (List.mem_of_getElem? (i := 30) rfl))) (ty := .int) (by decide)
      have F_b20_matchedBrackets := D_b20 (Or.inr (hw _ (List.mem_of_getElem? (i := 32) rfl))) (ty := .int) (by decide)
      have F_b20_crossingBrackets := D_b20 (Or.inr (hw _ (List.mem_of_getElem? (i := 34) rfl))) (ty := .int) (by decide)
      have F_b20_words := D_b20 (Or.inr (hw _ (List.mem_of_getElem? (i := 36) rfl))) (ty := .int) (by decide)
      have F_b20_correctTags := D_b20 (Or.inr (hw _ (List.mem_of_getElem? (i := 38) rfl))) (ty := .int) (by decide)
      have F_b20_mismatch := D_b20 (Or.inr (hw _ (List.mem_of_getElem? (i := 40) rfl))) (ty := (.object "com/example/spanwise/spanwise/trees/SentenceScore$Mismatch")) (by decide)
      replace Old9 := Old9.ext X22
      refine dup P at_151 rfl (n := 152) rfl ?_
      refine aload P at_152 rfl rfl (n := 154) rfl ?_
      refine iconst P at_154 (x := (0 : Int32)) rfl (n := 155) rfl ?_
      refine iload P at_155 rfl (n := 157) rfl ?_
      refine iload P at_157 rfl (n := 159) rfl ?_
      refine iload P at_159 rfl (n := 161) rfl ?_
      refine iload P at_161 rfl (n := 163) rfl ?_
      refine iload P at_163 rfl (n := 165) rfl ?_
      refine iload P at_165 rfl (n := 167) rfl ?_
      refine aconstNull P at_167 (n := 168) rfl ?_
      refine callN P at_168 (a := b20) (argsL := [(.ref (if z3.toInt = 1 then xe else if z3.toInt = 2 then xk else xv)), (.int (0 : Int32)), (.int (p0 &&& (2147483647 : Int32))), (.int j2_10), (.int j2_11), (.int ((p0 >>> ((8 : Int32) &&& 31)) &&& (7 : Int32))), (.int (p0 &&& (255 : Int32))), (.int (p0 &&& (255 : Int32))), .null]) (rest := [(.ref b20)]) (c_score l Z a0 hw b20 (if z3.toInt = 1 then xe else if z3.toInt = 2 then xk else xv) (0 : Int32) (p0 &&& (2147483647 : Int32)) j2_10 j2_11 ((p0 >>> ((8 : Int32) &&& 31)) &&& (7 : Int32)) (p0 &&& (255 : Int32)) (p0 &&& (255 : Int32)) h21 n0 P.low E_b20 F_b20_status F_b20_length F_b20_goldBrackets F_b20_parsedBrackets F_b20_matchedBrackets F_b20_crossingBrackets F_b20_words F_b20_correctTags F_b20_mismatch lo_b20) rfl (hw _ (List.mem_of_getElem? (i := 12) rfl)) (hw _ (List.mem_of_getElem? (i := 13) rfl)) (hw _ (List.mem_of_getElem? (i := 11) rfl)) (hw _ (List.mem_of_getElem? (i := 14) rfl)) (by decide) pd_5 rfl rfl rfl ⟨by decide, Nat.le_of_ble_eq_true rfl, by decide, by decide⟩ (n := 171) rfl ?_
      rintro T h24 v P ⟨rfl, K25, F_b20_status, F_b20_goldBrackets, F_b20_parsedBrackets, F_b20_matchedBrackets, F_b20_crossingBrackets, F_b20_words, F_b20_correctTags⟩
      replace E_b14 := Exa.keep E_b14 K25
      replace F_b14_status := Fld.keep F_b14_status K25 (ninS ne_b14_b20 nin0)
      replace F_b14_goldBrackets := Fld.keep F_b14_goldBrackets K25 (ninS ne_b14_b20 nin0)
      replace F_b14_parsedBrackets := Fld.keep F_b14_parsedBrackets K25 (ninS ne_b14_b20 nin0)
      replace F_b14_matchedBrackets := Fld.keep F_b14_matchedBrackets K25 (ninS ne_b14_b20 nin0)
      replace F_b14_crossingBrackets := Fld.keep F_b14_crossingBrackets K25 (ninS ne_b14_b20 nin0)
      replace F_b14_words := Fld.keep F_b14_words K25 (ninS ne_b14_b20 nin0)
      replace F_b14_correctTags := Fld.keep F_b14_correctTags K25 (ninS ne_b14_b20 nin0)
      replace E_b20 := Exa.keep E_b20 K25
      replace Old9 := Old.keep Old9 K25 (allS lo_b20 all0)
      show Jvm.Own.Ends p e below s room_1 n0 (fun v _ => v = some (.int 1)) T (mkF m 171 #[.val (.int p0), .val (.int p1), .val (.int p2), .val (.int p3), .val (.int p4), .val (.int p5), .val (.int z2), .val (.int z3), .val (.int j1_8), .val (.int j1_9), .val (.int j2_10), .val (.int j2_11), .val (.int (p0 &&& (2147483647 : Int32))), .val (.int ((p0 >>> ((8 : Int32) &&& 31)) &&& (7 : Int32))), .val (.int (p0 &&& (255 : Int32))), .val (.ref (if z2.toInt = 1 then xe else if z2.toInt = 2 then xk else xv)), .val (.ref (if z3.toInt = 1 then xe else if z3.toInt = 2 then xk else xv)), .val (.ref b14), .unset, .unset, .unset, .unset, .unset, .unset, .unset, .unset, .unset, .unset] [(.ref b20)])
      refine astore P at_171 rfl (l' := #[.val (.int p0), .val (.int p1), .val (.int p2), .val (.int p3), .val (.int p4), .val (.int p5), .val (.int z2), .val (.int z3), .val (.int j1_8), .val (.int j1_9), .val (.int j2_10), .val (.int j2_11), .val (.int (p0 &&& (2147483647 : Int32))), .val (.int ((p0 >>> ((8 : Int32) &&& 31)) &&& (7 : Int32))), .val (.int (p0 &&& (255 : Int32))), .val (.ref (if z2.toInt = 1 then xe else if z2.toInt = 2 then xk else xv)), .val (.ref (if z3.toInt = 1 then xe else if z3.toInt = 2 then xk else xv)), .val (.ref b14), .val (.ref b20), .unset, .unset, .unset, .unset, .unset, .unset, .unset, .unset, .unset]) rfl (n := 173) rfl ?_
      refine newO P at_173 (hw _ (List.mem_of_getElem? (i := 41) rfl)) (hw _ (List.mem_of_getElem? (i := 42) rfl)) (hw _ (List.mem_of_getElem? (i := 43) rfl)) (by decide) (by decide) (n := 176) rfl ?_
      intro T h27 b26 P X28 g29 lo_b26 E_b26 D_b26
      have ne_b14_b26 : b14 ≠ b26 := Nat.ne_of_lt (g29 ▸ E_b14.lt)
      have ne_b20_b26 : b20 ≠ b26 := Nat.ne_of_lt (g29 ▸ E_b20.lt)
      replace E_b14 := Exa.ext X28 E_b14
      replace F_b14_status := Fld.ext X28 F_b14_status
      replace F_b14_goldBrackets := Fld.ext X28 F_b14_goldBrackets
      replace F_b14_parsedBrackets := Fld.ext X28 F_b14_parsedBrackets
      replace F_b14_matchedBrackets := Fld.ext X28 F_b14_matchedBrackets
      replace F_b14_crossingBrackets := Fld.ext X28 F_b14_crossingBrackets
      replace F_b14_words := Fld.ext X28 F_b14_words
      replace F_b14_correctTags := Fld.ext X28 F_b14_correctTags
      replace E_b20 := Exa.ext X28 E_b20
      replace F_b20_status := Fld.ext X28 F_b20_status
      replace F_b20_goldBrackets := Fld.ext X28 F_b20_goldBrackets
      replace F_b20_parsedBrackets := Fld.ext X28 F_b20_parsedBrackets
      replace F_b20_matchedBrackets := Fld.ext X28 F_b20_matchedBrackets
      replace F_b20_crossingBrackets := Fld.ext X28 F_b20_crossingBrackets
      replace F_b20_words := Fld.ext X28 F_b20_words
      replace F_b20_correctTags := Fld.ext X28 F_b20_correctTags
      have F_b26_sentences := D_b26 (Or.inl (hw _ (List.mem_of_getElem? (i := 54) rfl))) (ty := .int) (by decide)
      have F_b26_goldBrackets := D_b26 (Or.inl (hw _ (List.mem_of_getElem? (i := 65) rfl))) (ty := .long) (by decide)
      have F_b26_parsedBrackets := D_b26 (Or.inl (hw _ (List.mem_of_getElem? (i := 72) rfl))) (ty := .long) (by decide)
      have F_b26_matchedBrackets := D_b26 (Or.inl (hw _ (List.mem_of_getElem? (i := 79) rfl))) (ty := .long) (by decide)
      have F_b26_crossingBrackets := D_b26 (Or.inl (hw _ (List.mem_of_getElem? (i := 86) rfl))) (ty := .long) (by decide)
      have F_b26_withoutCrossing := D_b26 (Or.inl (hw _ (List.mem_of_getElem? (i := 99) rfl))) (ty := .int) (by decide)
      have F_b26_withTwoOrLessCrossing := D_b26 (Or.inl (hw _ (List.mem_of_getElem? (i := 101) rfl))) (ty := .int) (by decide)
      have F_b26_words := D_b26 (Or.inl (hw _ (List.mem_of_getElem? (i := 103) rfl))) (ty := .long) (by decide)
      have F_b26_correctTags := D_b26 (Or.inl (hw _ (List.mem_of_getElem? (i := 110) rfl))) (ty := .long) (by decide)
      have F_b26_skipped := D_b26 (Or.inl (hw _ (List.mem_of_getElem? (i := 125) rfl))) (ty := .int) (by decide)
      have F_b26_errors := D_b26 (Or.inl (hw _ (List.mem_of_getElem? (i := 128) rfl))) (ty := .int) (by decide)
      have F_b26_completeMatches := D_b26 (Or.inl (hw _ (List.mem_of_getElem? (i := 130) rfl))) (ty := .int) (by decide)
      replace Old9 := Old9.ext X28
      refine dup P at_176 rfl (n := 177) rfl ?_
      refine callN P at_177 (a := b26) (argsL := []) (rest := [(.ref b26)]) (c_tnew l Z a0 hw b26 h27 n0 P.low ) rfl (hw _ (List.mem_of_getElem? (i := 44) rfl)) (hw _ (List.mem_of_getElem? (i := 45) rfl)) (hw _ (List.mem_of_getElem? (i := 43) rfl)) (hw _ (List.mem_of_getElem? (i := 46) rfl)) (by decide) pd_0 rfl rfl rfl ⟨by decide, Nat.le_of_ble_eq_true rfl, by decide, by decide⟩ (n := 180) rfl (RetV.on ?_)
      intro T P
      refine astore P at_180 rfl (l' := #[.val (.int p0), .val (.int p1), .val (.int p2), .val (.int p3), .val (.int p4), .val (.int p5), .val (.int z2), .val (.int z3), .val (.int j1_8), .val (.int j1_9), .val (.int j2_10), .val (.int j2_11), .val (.int (p0 &&& (2147483647 : Int32))), .val (.int ((p0 >>> ((8 : Int32) &&& 31)) &&& (7 : Int32))), .val (.int (p0 &&& (255 : Int32))), .val (.ref (if z2.toInt = 1 then xe else if z2.toInt = 2 then xk else xv)), .val (.ref (if z3.toInt = 1 then xe else if z3.toInt = 2 then xk else xv)), .val (.ref b14), .val (.ref b20), .val (.ref b26), .unset, .unset, .unset, .unset, .unset, .unset, .unset, .unset]) rfl (n := 182) rfl ?_
      have T0 : Exa Z h27 b26 "com/example/spanwise/spanwise/trees/BracketTotals" ∧ (∃ (t0 : Int32) (t1 : Int32) (t2 : Int32) (t3 : Int64) (t6 : Int64) (t7 : Int32) (t8 : Int32) (t9 : Int32) (t10 : Int64) (t11 : Int64), Fld Z h27 b26 "com/example/spanwise/spanwise/trees/BracketTotals" "sentences" "I" (.int t0) ∧ Fld Z h27 b26 "com/example/spanwise/spanwise/trees/BracketTotals" "errors" "I" (.int t1) ∧ Fld Z h27 b26 "com/example/spanwise/spanwise/trees/BracketTotals" "skipped" "I" (.int t2) ∧ Fld Z h27 b26 "com/example/spanwise/spanwise/trees/BracketTotals" "goldBrackets" "J" (.long t3) ∧ Fld Z h27 b26 "com/example/spanwise/spanwise/trees/BracketTotals" "crossingBrackets" "J" (.long t6) ∧ Fld Z h27 b26 "com/example/spanwise/spanwise/trees/BracketTotals" "completeMatches" "I" (.int t7) ∧ Fld Z h27 b26 "com/example/spanwise/spanwise/trees/BracketTotals" "withoutCrossing" "I" (.int t8) ∧ Fld Z h27 b26 "com/example/spanwise/spanwise/trees/BracketTotals" "withTwoOrLessCrossing" "I" (.int t9) ∧ Fld Z h27 b26 "com/example/spanwise/spanwise/trees/BracketTotals" "words" "J" (.long t10) ∧ Fld Z h27 b26 "com/example/spanwise/spanwise/trees/BracketTotals" "correctTags" "J" (.long t11)) ∧ Fld Z h27 b26 "com/example/spanwise/spanwise/trees/BracketTotals" "parsedBrackets" "J" (.long (0 : Int64)) ∧ Fld Z h27 b26 "com/example/spanwise/spanwise/trees/BracketTotals" "matchedBrackets" "J" (.long (0 : Int64)) := ⟨E_b26, ⟨_, _, _, _, _, _, _, _, _, _, F_b26_sentences, F_b26_errors, F_b26_skipped, F_b26_goldBrackets, F_b26_crossingBrackets, F_b26_completeMatches, F_b26_withoutCrossing, F_b26_withTwoOrLessCrossing, F_b26_words, F_b26_correctTags⟩, F_b26_parsedBrackets, F_b26_matchedBrackets⟩
      refine aload P at_182 rfl rfl (n := 184) rfl ?_
      refine aload P at_184 rfl rfl (n := 186) rfl ?_
      refine callV P at_186 (a := b26) (argsL := [(.ref b14)]) (rest := []) (c_add l Z a0 hw b26 b14 (if z2.toInt = 1 then xe else if z2.toInt = 2 then xk else xv) (p0 &&& (2147483647 : Int32)) j1_8 j1_9 ((p0 >>> ((8 : Int32) &&& 31)) &&& (7 : Int32)) (p0 &&& (255 : Int32)) (p0 &&& (255 : Int32)) (0 : Int64) (0 : Int64) xv xe xk  h27 n0 P.low T0 E_b14 F_b14_status F_b14_goldBrackets F_b14_parsedBrackets F_b14_matchedBrackets F_b14_crossingBrackets F_b14_words F_b14_correctTags (Sta.ext Old9.2 S_v) (Sta.ext Old9.2 S_e) (Sta.ext Old9.2 S_k) (Ne.symm ne_b14_b26) lo_b26) (T0.1) (hw _ (List.mem_of_getElem? (i := 48) rfl)) (hw _ (List.mem_of_getElem? (i := 49) rfl)) (notFace_of_selects (args := #[]) (mvT P.hZ (hw _ (List.mem_of_getElem? (i := 51) rfl)))) (hw _ (List.mem_of_getElem? (i := 51) rfl)) (hw _ (List.mem_of_getElem? (i := 50) rfl)) (hw _ (List.mem_of_getElem? (i := 43) rfl)) (hw _ (List.mem_of_getElem? (i := 52) rfl)) (by decide) pd_6 rfl rfl rfl ⟨by decide, Nat.le_of_ble_eq_true rfl, by decide, by decide⟩ (n := 189) rfl ?_
      rintro T h30 v P ⟨rfl, K31, qs, qn⟩
      replace E_b14 := Exa.keep E_b14 K31
      replace F_b14_status := Fld.keep F_b14_status K31 (ninS ne_b14_b26 nin0)
      replace F_b14_goldBrackets := Fld.keep F_b14_goldBrackets K31 (ninS ne_b14_b26 nin0)
      replace F_b14_parsedBrackets := Fld.keep F_b14_parsedBrackets K31 (ninS ne_b14_b26 nin0)
      replace F_b14_matchedBrackets := Fld.keep F_b14_matchedBrackets K31 (ninS ne_b14_b26 nin0)
      replace F_b14_crossingBrackets := Fld.keep F_b14_crossingBrackets K31 (ninS ne_b14_b26 nin0)
      replace F_b14_words := Fld.keep F_b14_words K31 (ninS ne_b14_b26 nin0)
      replace F_b14_correctTags := Fld.keep F_b14_correctTags K31 (ninS ne_b14_b26 nin0)
      replace E_b20 := Exa.keep E_b20 K31
      replace F_b20_status := Fld.keep F_b20_status K31 (ninS ne_b20_b26 nin0)
      replace F_b20_goldBrackets := Fld.keep F_b20_goldBrackets K31 (ninS ne_b20_b26 nin0)
      replace F_b20_parsedBrackets := Fld.keep F_b20_parsedBrackets K31 (ninS ne_b20_b26 nin0)
      replace F_b20_matchedBrackets := Fld.keep F_b20_matchedBrackets K31 (ninS ne_b20_b26 nin0)
      replace F_b20_crossingBrackets := Fld.keep F_b20_crossingBrackets K31 (ninS ne_b20_b26 nin0)
      replace F_b20_words := Fld.keep F_b20_words K31 (ninS ne_b20_b26 nin0)
      replace F_b20_correctTags := Fld.keep F_b20_correctTags K31 (ninS ne_b20_b26 nin0)
      replace Old9 := Old.keep Old9 K31 (allS lo_b26 all0)
      show Jvm.Own.Ends p e below s room_1 n0 (fun v _ => v = some (.int 1)) T (mkF m 189 #[.val (.int p0), .val (.int p1), .val (.int p2), .val (.int p3), .val (.int p4), .val (.int p5), .val (.int z2), .val (.int z3), .val (.int j1_8), .val (.int j1_9), .val (.int j2_10), .val (.int j2_11), .val (.int (p0 &&& (2147483647 : Int32))), .val (.int ((p0 >>> ((8 : Int32) &&& 31)) &&& (7 : Int32))), .val (.int (p0 &&& (255 : Int32))), .val (.ref (if z2.toInt = 1 then xe else if z2.toInt = 2 then xk else xv)), .val (.ref (if z3.toInt = 1 then xe else if z3.toInt = 2 then xk else xv)), .val (.ref b14), .val (.ref b20), .val (.ref b26), .unset, .unset, .unset, .unset, .unset, .unset, .unset, .unset] [])
      have hst : ((if z2.toInt = 1 then xe else if z2.toInt = 2 then xk else xv) = xe ∨ (if z2.toInt = 1 then xe else if z2.toInt = 2 then xk else xv) = xk) ↔ (z2.toInt = 1 ∨ z2.toInt = 2) := by
        by_cases r1 : z2.toInt = 1
        · simp [r1]
        · by_cases r2 : z2.toInt = 2
          · simp [r1, r2]
          · simp [r1, r2, hve, hvk]
      by_cases qq : (z2.toInt = 1 ∨ z2.toInt = 2)
      ·
        replace qs := qs (hst.mpr qq)
        have O32 := qs
        refine aload P at_189 rfl rfl (n := 191) rfl ?_
        refine aload P at_191 rfl rfl (n := 193) rfl ?_
        refine callV P at_193 (a := b26) (argsL := [(.ref b20)]) (rest := []) (c_add l Z a0 hw b26 b20 (if z3.toInt = 1 then xe else if z3.toInt = 2 then xk else xv) (p0 &&& (2147483647 : Int32)) j2_10 j2_11 ((p0 >>> ((8 : Int32) &&& 31)) &&& (7 : Int32)) (p0 &&& (255 : Int32)) (p0 &&& (255 : Int32)) (0 : Int64) (0 : Int64) xv xe xk  h30 n0 P.low O32 E_b20 F_b20_status F_b20_goldBrackets F_b20_parsedBrackets F_b20_matchedBrackets F_b20_crossingBrackets F_b20_words F_b20_correctTags (Sta.ext Old9.2 S_v) (Sta.ext Old9.2 S_e) (Sta.ext Old9.2 S_k) (Ne.symm ne_b20_b26) lo_b26) (O32.1) (hw _ (List.mem_of_getElem? (i := 48) rfl)) (hw _ (List.mem_of_getElem? (i := 49) rfl)) (notFace_of_selects (args := #[]) (mvT P.hZ (hw _ (List.mem_of_getElem? (i := 51) rfl)))) (hw _ (List.mem_of_getElem? (i := 51) rfl)) (hw _ (List.mem_of_getElem? (i := 50) rfl)) (hw _ (List.mem_of_getElem? (i := 43) rfl)) (hw _ (List.mem_of_getElem? (i := 52) rfl)) (by decide) pd_6 rfl rfl rfl ⟨by decide, Nat.le_of_ble_eq_true rfl, by decide, by decide⟩ (n := 196) rfl ?_
        rintro T h33 v P ⟨rfl, K34, qs, qn⟩
        replace E_b14 := Exa.keep E_b14 K34
        replace F_b14_status := Fld.keep F_b14_status K34 (ninS ne_b14_b26 nin0)
        replace F_b14_goldBrackets := Fld.keep F_b14_goldBrackets K34 (ninS ne_b14_b26 nin0)
        replace F_b14_parsedBrackets := Fld.keep F_b14_parsedBrackets K34 (ninS ne_b14_b26 nin0)
        replace F_b14_matchedBrackets := Fld.keep F_b14_matchedBrackets K34 (ninS ne_b14_b26 nin0)
        replace F_b14_crossingBrackets := Fld.keep F_b14_crossingBrackets K34 (ninS ne_b14_b26 nin0)
        replace F_b14_words := Fld.keep F_b14_words K34 (ninS ne_b14_b26 nin0)
        replace F_b14_correctTags := Fld.keep F_b14_correctTags K34 (ninS ne_b14_b26 nin0)
        replace E_b20 := Exa.keep E_b20 K34
        replace F_b20_status := Fld.keep F_b20_status K34 (ninS ne_b20_b26 nin0)
        replace F_b20_goldBrackets := Fld.keep F_b20_goldBrackets K34 (ninS ne_b20_b26 nin0)
        replace F_b20_parsedBrackets := Fld.keep F_b20_parsedBrackets K34 (ninS ne_b20_b26 nin0)
        replace F_b20_matchedBrackets := Fld.keep F_b20_matchedBrackets K34 (ninS ne_b20_b26 nin0)
        replace F_b20_crossingBrackets := Fld.keep F_b20_crossingBrackets K34 (ninS ne_b20_b26 nin0)
        replace F_b20_words := Fld.keep F_b20_words K34 (ninS ne_b20_b26 nin0)
        replace F_b20_correctTags := Fld.keep F_b20_correctTags K34 (ninS ne_b20_b26 nin0)
        replace Old9 := Old.keep Old9 K34 (allS lo_b26 all0)
        show Jvm.Own.Ends p e below s room_1 n0 (fun v _ => v = some (.int 1)) T (mkF m 196 #[.val (.int p0), .val (.int p1), .val (.int p2), .val (.int p3), .val (.int p4), .val (.int p5), .val (.int z2), .val (.int z3), .val (.int j1_8), .val (.int j1_9), .val (.int j2_10), .val (.int j2_11), .val (.int (p0 &&& (2147483647 : Int32))), .val (.int ((p0 >>> ((8 : Int32) &&& 31)) &&& (7 : Int32))), .val (.int (p0 &&& (255 : Int32))), .val (.ref (if z2.toInt = 1 then xe else if z2.toInt = 2 then xk else xv)), .val (.ref (if z3.toInt = 1 then xe else if z3.toInt = 2 then xk else xv)), .val (.ref b14), .val (.ref b20), .val (.ref b26), .unset, .unset, .unset, .unset, .unset, .unset, .unset, .unset] [])
        have hst : ((if z3.toInt = 1 then xe else if z3.toInt = 2 then xk else xv) = xe ∨ (if z3.toInt = 1 then xe else if z3.toInt = 2 then xk else xv) = xk) ↔ (z3.toInt = 1 ∨ z3.toInt = 2) := by
          by_cases r1 : z3.toInt = 1
          · simp [r1]
          · by_cases r2 : z3.toInt = 2
            · simp [r1, r2]
            · simp [r1, r2, hve, hvk]
        by_cases qq : (z3.toInt = 1 ∨ z3.toInt = 2)
        ·
          replace qs := qs (hst.mpr qq)
          have O35 := qs
          refine aload P at_196 rfl rfl (n := 198) rfl ?_
          refine callV P at_198 (a := b26) (argsL := []) (rest := []) (c_prec l Z a0 hw b26 (0 : Int64) (0 : Int64) h33 n0 P.low O35.2.2.1 O35.2.2.2) (O35.1) (hw _ (List.mem_of_getElem? (i := 116) rfl)) (hw _ (List.mem_of_getElem? (i := 117) rfl)) (notFace_of_selects (args := #[]) (mvT P.hZ (hw _ (List.mem_of_getElem? (i := 119) rfl)))) (hw _ (List.mem_of_getElem? (i := 119) rfl)) (hw _ (List.mem_of_getElem? (i := 118) rfl)) (hw _ (List.mem_of_getElem? (i := 43) rfl)) (hw _ (List.mem_of_getElem? (i := 120) rfl)) (by decide) pd_7 rfl rfl rfl ⟨by decide, Nat.le_of_ble_eq_true rfl, by decide, by decide⟩ (n := 201) rfl (Ret.on ?_)
          intro T P
          refine dstore P at_201 (l' := #[.val (.int p0), .val (.int p1), .val (.int p2), .val (.int p3), .val (.int p4), .val (.int p5), .val (.int z2), .val (.int z3), .val (.int j1_8), .val (.int j1_9), .val (.int j2_10), .val (.int j2_11), .val (.int (p0 &&& (2147483647 : Int32))), .val (.int ((p0 >>> ((8 : Int32) &&& 31)) &&& (7 : Int32))), .val (.int (p0 &&& (255 : Int32))), .val (.ref (if z2.toInt = 1 then xe else if z2.toInt = 2 then xk else xv)), .val (.ref (if z3.toInt = 1 then xe else if z3.toInt = 2 then xk else xv)), .val (.ref b14), .val (.ref b20), .val (.ref b26), .val (.double (own_prec (0 : Int64) (0 : Int64))), .second, .unset, .unset, .unset, .unset, .unset, .unset]) rfl (n := 203) rfl ?_
          refine lconst P at_203 (x := (0 : Int64)) rfl (n := 204) rfl ?_
          refine lstore P at_204 (l' := #[.val (.int p0), .val (.int p1), .val (.int p2), .val (.int p3), .val (.int p4), .val (.int p5), .val (.int z2), .val (.int z3), .val (.int j1_8), .val (.int j1_9), .val (.int j2_10), .val (.int j2_11), .val (.int (p0 &&& (2147483647 : Int32))), .val (.int ((p0 >>> ((8 : Int32) &&& 31)) &&& (7 : Int32))), .val (.int (p0 &&& (255 : Int32))), .val (.ref (if z2.toInt = 1 then xe else if z2.toInt = 2 then xk else xv)), .val (.ref (if z3.toInt = 1 then xe else if z3.toInt = 2 then xk else xv)), .val (.ref b14), .val (.ref b20), .val (.ref b26), .val (.double (own_prec (0 : Int64) (0 : Int64))), .second, .val (.long (0 : Int64)), .second, .unset, .unset, .unset, .unset]) rfl (n := 206) rfl ?_
          refine lconst P at_206 (x := (0 : Int64)) rfl (n := 207) rfl ?_
          refine lstore P at_207 (l' := #[.val (.int p0), .val (.int p1), .val (.int p2), .val (.int p3), .val (.int p4), .val (.int p5), .val (.int z2), .val (.int z3), .val (.int j1_8), .val (.int j1_9), .val (.int j2_10), .val (.int j2_11), .val (.int (p0 &&& (2147483647 : Int32))), .val (.int ((p0 >>> ((8 : Int32) &&& 31)) &&& (7 : Int32))), .val (.int (p0 &&& (255 : Int32))), .val (.ref (if z2.toInt = 1 then xe else if z2.toInt = 2 then xk else xv)), .val (.ref (if z3.toInt = 1 then xe else if z3.toInt = 2 then xk else xv)), .val (.ref b14), .val (.ref b20), .val (.ref b26), .val (.double (own_prec (0 : Int64) (0 : Int64))), .second, .val (.long (0 : Int64)), .second, .val (.long (0 : Int64)), .second, .unset, .unset]) rfl (n := 209) rfl ?_
          refine iload P at_209 rfl (n := 211) rfl ?_
          refine if0_eq P at_211 (n' := 220) (n := 214) (by decide) rfl (fun hc211 => ?_) (fun hc211 => ?_)
          · -- pc 211 taken
            replace hc211 : z2.toInt = (0 : Int) := hc211
            exfalso; omega
          · -- pc 211 not taken
            replace hc211 : ¬ z2.toInt = (0 : Int) := hc211
            refine iload P at_214 rfl (n := 216) rfl ?_
            refine iconst P at_216 (x := (3 : Int32)) rfl (n := 217) rfl ?_
            refine icmp_ne P at_217 (n' := 236) (n := 220) (by decide) rfl (fun hc217 => ?_) (fun hc217 => ?_)
            · -- pc 217 taken
              replace hc217 : ¬ z2.toInt = (3 : Int) := hc217
              refine iload P at_236 rfl (n := 238) rfl ?_
              refine if0_eq P at_238 (n' := 247) (n := 241) (by decide) rfl (fun hc238 => ?_) (fun hc238 => ?_)
              · -- pc 238 taken
                replace hc238 : z3.toInt = (0 : Int) := hc238
                exfalso; omega
              · -- pc 238 not taken
                replace hc238 : ¬ z3.toInt = (0 : Int) := hc238
                refine iload P at_241 rfl (n := 243) rfl ?_
                refine iconst P at_243 (x := (3 : Int32)) rfl (n := 244) rfl ?_
                refine icmp_ne P at_244 (n' := 263) (n := 247) (by decide) rfl (fun hc244 => ?_) (fun hc244 => ?_)
                · -- pc 244 taken
                  replace hc244 : ¬ z3.toInt = (3 : Int) := hc244
                  refine dconst0 P at_263 (n := 264) rfl ?_
                  refine dstore P at_264 (l' := #[.val (.int p0), .val (.int p1), .val (.int p2), .val (.int p3), .val (.int p4), .val (.int p5), .val (.int z2), .val (.int z3), .val (.int j1_8), .val (.int j1_9), .val (.int j2_10), .val (.int j2_11), .val (.int (p0 &&& (2147483647 : Int32))), .val (.int ((p0 >>> ((8 : Int32) &&& 31)) &&& (7 : Int32))), .val (.int (p0 &&& (255 : Int32))), .val (.ref (if z2.toInt = 1 then xe else if z2.toInt = 2 then xk else xv)), .val (.ref (if z3.toInt = 1 then xe else if z3.toInt = 2 then xk else xv)), .val (.ref b14), .val (.ref b20), .val (.ref b26), .val (.double (own_prec (0 : Int64) (0 : Int64))), .second, .val (.long (0 : Int64)), .second, .val (.long (0 : Int64)), .second, .val (.double (0 : UInt64)), .second]) rfl (n := 266) rfl ?_
                  refine lload P at_266 rfl (n := 268) rfl ?_
                  refine lconst P at_268 (x := (0 : Int64)) rfl (n := 269) rfl ?_
                  refine lcmp P at_269 (n := 270) rfl ?_
                  refine ifl_le P at_270 (n' := 286) (n := 273) (by decide) rfl (fun hc270 => ?_) (fun hc270 => ?_)
                  · -- pc 270 taken
                    replace hc270 : (0 : Int) ≤ (0 : Int) := hc270
                    refine dload P at_286 rfl (n := 288) rfl ?_
                    refine dload P at_288 rfl (n := 290) rfl ?_
                    refine dcmp P at_290 (v := (0 : Int32)) (Jvm.RoadKit.dcmpV_eq (by unfold own_prec; rw [if_neg (by first | omega | decide)]) (own_n _ _) _) (n := 291) rfl ?_
                    refine if0_ne P at_291 (n' := 298) (n := 294) (by decide) rfl (fun hc291 => ?_) (fun hc291 => ?_)
                    · -- pc 291 taken
                      replace hc291 : ¬ (0 : Int) = (0 : Int) := hc291
                      exact absurd hc291 (by decide)
                    · -- pc 291 not taken
                      replace hc291 : (0 : Int) = (0 : Int) := hc291
                      refine iconst P at_294 (x := (1 : Int32)) rfl (n := 295) rfl ?_
                      refine goto P at_295 (n := 299) (by decide) ?_
                      refine retZ P at_299 (by decide) (by decide) (by decide) ?_
                      exact rfl
                  · -- pc 270 not taken
                    replace hc270 : (0 : Int) < (0 : Int) := hc270
                    exact absurd hc270 (by decide)
                · -- pc 244 not taken
                  replace hc244 : z3.toInt = (3 : Int) := hc244
                  exfalso; omega
            · -- pc 217 not taken
              replace hc217 : z2.toInt = (3 : Int) := hc217
              exfalso; omega
        ·
          have O35 := qn (fun w => qq (hst.mp w))
          refine aload P at_196 rfl rfl (n := 198) rfl ?_
          refine callV P at_198 (a := b26) (argsL := []) (rest := []) (c_prec l Z a0 hw b26 ((0 : Int64) + j2_10.toInt64) ((0 : Int64) + j2_11.toInt64) h33 n0 P.low O35.2.2.1 O35.2.2.2) (O35.1) (hw _ (List.mem_of_getElem? (i := 116) rfl)) (hw _ (List.mem_of_getElem? (i := 117) rfl)) (notFace_of_selects (args := #[]) (mvT P.hZ (hw _ (List.mem_of_getElem? (i := 119) rfl)))) (hw _ (List.mem_of_getElem? (i := 119) rfl)) (hw _ (List.mem_of_getElem? (i := 118) rfl)) (hw _ (List.mem_of_getElem? (i := 43) rfl)) (hw _ (List.mem_of_getElem? (i := 120) rfl)) (by decide) pd_7 rfl rfl rfl ⟨by decide, Nat.le_of_ble_eq_true rfl, by decide, by decide⟩ (n := 201) rfl (Ret.on ?_)
          intro T P
          refine dstore P at_201 (l' := #[.val (.int p0), .val (.int p1), .val (.int p2), .val (.int p3), .val (.int p4), .val (.int p5), .val (.int z2), .val (.int z3), .val (.int j1_8), .val (.int j1_9), .val (.int j2_10), .val (.int j2_11), .val (.int (p0 &&& (2147483647 : Int32))), .val (.int ((p0 >>> ((8 : Int32) &&& 31)) &&& (7 : Int32))), .val (.int (p0 &&& (255 : Int32))), .val (.ref (if z2.toInt = 1 then xe else if z2.toInt = 2 then xk else xv)), .val (.ref (if z3.toInt = 1 then xe else if z3.toInt = 2 then xk else xv)), .val (.ref b14), .val (.ref b20), .val (.ref b26), .val (.double (own_prec ((0 : Int64) + j2_10.toInt64) ((0 : Int64) + j2_11.toInt64))), .second, .unset, .unset, .unset, .unset, .unset, .unset]) rfl (n := 203) rfl ?_
          refine lconst P at_203 (x := (0 : Int64)) rfl (n := 204) rfl ?_
          refine lstore P at_204 (l' := #[.val (.int p0), .val (.int p1), .val (.int p2), .val (.int p3), .val (.int p4), .val (.int p5), .val (.int z2), .val (.int z3), .val (.int j1_8), .val (.int j1_9), .val (.int j2_10), .val (.int j2_11), .val (.int (p0 &&& (2147483647 : Int32))), .val (.int ((p0 >>> ((8 : Int32) &&& 31)) &&& (7 : Int32))), .val (.int (p0 &&& (255 : Int32))), .val (.ref (if z2.toInt = 1 then xe else if z2.toInt = 2 then xk else xv)), .val (.ref (if z3.toInt = 1 then xe else if z3.toInt = 2 then xk else xv)), .val (.ref b14), .val (.ref b20), .val (.ref b26), .val (.double (own_prec ((0 : Int64) + j2_10.toInt64) ((0 : Int64) + j2_11.toInt64))), .second, .val (.long (0 : Int64)), .second, .unset, .unset, .unset, .unset]) rfl (n := 206) rfl ?_
          refine lconst P at_206 (x := (0 : Int64)) rfl (n := 207) rfl ?_
          refine lstore P at_207 (l' := #[.val (.int p0), .val (.int p1), .val (.int p2), .val (.int p3), .val (.int p4), .val (.int p5), .val (.int z2), .val (.int z3), .val (.int j1_8), .val (.int j1_9), .val (.int j2_10), .val (.int j2_11), .val (.int (p0 &&& (2147483647 : Int32))), .val (.int ((p0 >>> ((8 : Int32) &&& 31)) &&& (7 : Int32))), .val (.int (p0 &&& (255 : Int32))), .val (.ref (if z2.toInt = 1 then xe else if z2.toInt = 2 then xk else xv)), .val (.ref (if z3.toInt = 1 then xe else if z3.toInt = 2 then xk else xv)), .val (.ref b14), .val (.ref b20), .val (.ref b26), .val (.double (own_prec ((0 : Int64) + j2_10.toInt64) ((0 : Int64) + j2_11.toInt64))), .second, .val (.long (0 : Int64)), .second, .val (.long (0 : Int64)), .second, .unset, .unset]) rfl (n := 209) rfl ?_
          refine iload P at_209 rfl (n := 211) rfl ?_
          refine if0_eq P at_211 (n' := 220) (n := 214) (by decide) rfl (fun hc211 => ?_) (fun hc211 => ?_)
          · -- pc 211 taken
            replace hc211 : z2.toInt = (0 : Int) := hc211
            exfalso; omega
          · -- pc 211 not taken
            replace hc211 : ¬ z2.toInt = (0 : Int) := hc211
            refine iload P at_214 rfl (n := 216) rfl ?_
            refine iconst P at_216 (x := (3 : Int32)) rfl (n := 217) rfl ?_
            refine icmp_ne P at_217 (n' := 236) (n := 220) (by decide) rfl (fun hc217 => ?_) (fun hc217 => ?_)
            · -- pc 217 taken
              replace hc217 : ¬ z2.toInt = (3 : Int) := hc217
              refine iload P at_236 rfl (n := 238) rfl ?_
              refine if0_eq P at_238 (n' := 247) (n := 241) (by decide) rfl (fun hc238 => ?_) (fun hc238 => ?_)
              · -- pc 238 taken
                replace hc238 : z3.toInt = (0 : Int) := hc238
                refine lload P at_247 rfl (n := 249) rfl ?_
                refine iload P at_249 rfl (n := 251) rfl ?_
                refine i2l P at_251 (n := 252) rfl ?_
                refine ladd P at_252 (n := 253) rfl ?_
                refine lstore P at_253 (l' := #[.val (.int p0), .val (.int p1), .val (.int p2), .val (.int p3), .val (.int p4), .val (.int p5), .val (.int z2), .val (.int z3), .val (.int j1_8), .val (.int j1_9), .val (.int j2_10), .val (.int j2_11), .val (.int (p0 &&& (2147483647 : Int32))), .val (.int ((p0 >>> ((8 : Int32) &&& 31)) &&& (7 : Int32))), .val (.int (p0 &&& (255 : Int32))), .val (.ref (if z2.toInt = 1 then xe else if z2.toInt = 2 then xk else xv)), .val (.ref (if z3.toInt = 1 then xe else if z3.toInt = 2 then xk else xv)), .val (.ref b14), .val (.ref b20), .val (.ref b26), .val (.double (own_prec ((0 : Int64) + j2_10.toInt64) ((0 : Int64) + j2_11.toInt64))), .second, .val (.long ((0 : Int64) + (j2_10.toInt64))), .second, .val (.long (0 : Int64)), .second, .unset, .unset]) rfl (n := 255) rfl ?_
                refine lload P at_255 rfl (n := 257) rfl ?_
                refine iload P at_257 rfl (n := 259) rfl ?_
                refine i2l P at_259 (n := 260) rfl ?_
                refine ladd P at_260 (n := 261) rfl ?_
                refine lstore P at_261 (l' := #[.val (.int p0), .val (.int p1), .val (.int p2), .val (.int p3), .val (.int p4), .val (.int p5), .val (.int z2), .val (.int z3), .val (.int j1_8), .val (.int j1_9), .val (.int j2_10), .val (.int j2_11), .val (.int (p0 &&& (2147483647 : Int32))), .val (.int ((p0 >>> ((8 : Int32) &&& 31)) &&& (7 : Int32))), .val (.int (p0 &&& (255 : Int32))), .val (.ref (if z2.toInt = 1 then xe else if z2.toInt = 2 then xk else xv)), .val (.ref (if z3.toInt = 1 then xe else if z3.toInt = 2 then xk else xv)), .val (.ref b14), .val (.ref b20), .val (.ref b26), .val (.double (own_prec ((0 : Int64) + j2_10.toInt64) ((0 : Int64) + j2_11.toInt64))), .second, .val (.long ((0 : Int64) + (j2_10.toInt64))), .second, .val (.long ((0 : Int64) + (j2_11.toInt64))), .second, .unset, .unset]) rfl (n := 263) rfl ?_
                refine dconst0 P at_263 (n := 264) rfl ?_
                refine dstore P at_264 (l' := #[.val (.int p0), .val (.int p1), .val (.int p2), .val (.int p3), .val (.int p4), .val (.int p5), .val (.int z2), .val (.int z3), .val (.int j1_8), .val (.int j1_9), .val (.int j2_10), .val (.int j2_11), .val (.int (p0 &&& (2147483647 : Int32))), .val (.int ((p0 >>> ((8 : Int32) &&& 31)) &&& (7 : Int32))), .val (.int (p0 &&& (255 : Int32))), .val (.ref (if z2.toInt = 1 then xe else if z2.toInt = 2 then xk else xv)), .val (.ref (if z3.toInt = 1 then xe else if z3.toInt = 2 then xk else xv)), .val (.ref b14), .val (.ref b20), .val (.ref b26), .val (.double (own_prec ((0 : Int64) + j2_10.toInt64) ((0 : Int64) + j2_11.toInt64))), .second, .val (.long ((0 : Int64) + (j2_10.toInt64))), .second, .val (.long ((0 : Int64) + (j2_11.toInt64))), .second, .val (.double (0 : UInt64)), .second]) rfl (n := 266) rfl ?_
                refine lload P at_266 rfl (n := 268) rfl ?_
                refine lconst P at_268 (x := (0 : Int64)) rfl (n := 269) rfl ?_
                refine lcmp P at_269 (n := 270) rfl ?_
                refine ifl_le P at_270 (n' := 286) (n := 273) (by decide) rfl (fun hc270 => ?_) (fun hc270 => ?_)
                · -- pc 270 taken
                  replace hc270 : ((0 : Int64) + (j2_10.toInt64)).toInt ≤ (0 : Int) := hc270
                  refine dload P at_286 rfl (n := 288) rfl ?_
                  refine dload P at_288 rfl (n := 290) rfl ?_
                  refine dcmp P at_290 (v := (0 : Int32)) (Jvm.RoadKit.dcmpV_eq (by unfold own_prec; rw [if_neg (by first | omega | decide)]) (own_n _ _) _) (n := 291) rfl ?_
                  refine if0_ne P at_291 (n' := 298) (n := 294) (by decide) rfl (fun hc291 => ?_) (fun hc291 => ?_)
                  · -- pc 291 taken
                    replace hc291 : ¬ (0 : Int) = (0 : Int) := hc291
                    exact absurd hc291 (by decide)
                  · -- pc 291 not taken
                    replace hc291 : (0 : Int) = (0 : Int) := hc291
                    refine iconst P at_294 (x := (1 : Int32)) rfl (n := 295) rfl ?_
                    refine goto P at_295 (n := 299) (by decide) ?_
                    refine retZ P at_299 (by decide) (by decide) (by decide) ?_
                    exact rfl
                · -- pc 270 not taken
                  replace hc270 : (0 : Int) < ((0 : Int64) + (j2_10.toInt64)).toInt := hc270
                  refine ldc2D P at_273 (hw _ (List.mem_of_getElem? (i := 122) rfl)) (n := 276) rfl ?_
                  refine lload P at_276 rfl (n := 278) rfl ?_
                  refine l2d P at_278 (n := 279) rfl ?_
                  refine dmul P at_279 (own_n1 ((0 : Int64) + (j2_11.toInt64))) (n := 280) rfl ?_
                  refine lload P at_280 rfl (n := 282) rfl ?_
                  refine l2d P at_282 (n := 283) rfl ?_
                  refine ddiv P at_283 (own_n2 _ _ (by omega)) (n := 284) rfl ?_
                  refine dstore P at_284 (l' := #[.val (.int p0), .val (.int p1), .val (.int p2), .val (.int p3), .val (.int p4), .val (.int p5), .val (.int z2), .val (.int z3), .val (.int j1_8), .val (.int j1_9), .val (.int j2_10), .val (.int j2_11), .val (.int (p0 &&& (2147483647 : Int32))), .val (.int ((p0 >>> ((8 : Int32) &&& 31)) &&& (7 : Int32))), .val (.int (p0 &&& (255 : Int32))), .val (.ref (if z2.toInt = 1 then xe else if z2.toInt = 2 then xk else xv)), .val (.ref (if z3.toInt = 1 then xe else if z3.toInt = 2 then xk else xv)), .val (.ref b14), .val (.ref b20), .val (.ref b26), .val (.double (own_prec ((0 : Int64) + j2_10.toInt64) ((0 : Int64) + j2_11.toInt64))), .second, .val (.long ((0 : Int64) + (j2_10.toInt64))), .second, .val (.long ((0 : Int64) + (j2_11.toInt64))), .second, .val (.double (FP.ddiv (FP.dmul (4636737291354636288 : UInt64) (FP.l2d ((0 : Int64) + (j2_11.toInt64)))) (FP.l2d ((0 : Int64) + (j2_10.toInt64))))), .second]) rfl (n := 286) rfl ?_
                  refine dload P at_286 rfl (n := 288) rfl ?_
                  refine dload P at_288 rfl (n := 290) rfl ?_
                  refine dcmp P at_290 (v := (0 : Int32)) (Jvm.RoadKit.dcmpV_eq (by unfold own_prec; rw [if_pos (by first | omega | decide)]) (own_n _ _) _) (n := 291) rfl ?_
                  refine if0_ne P at_291 (n' := 298) (n := 294) (by decide) rfl (fun hc291 => ?_) (fun hc291 => ?_)
                  · -- pc 291 taken
                    replace hc291 : ¬ (0 : Int) = (0 : Int) := hc291
                    exact absurd hc291 (by decide)
                  · -- pc 291 not taken
                    replace hc291 : (0 : Int) = (0 : Int) := hc291
                    refine iconst P at_294 (x := (1 : Int32)) rfl (n := 295) rfl ?_
                    refine goto P at_295 (n := 299) (by decide) ?_
                    refine retZ P at_299 (by decide) (by decide) (by decide) ?_
                    exact rfl
              · -- pc 238 not taken
                replace hc238 : ¬ z3.toInt = (0 : Int) := hc238
                refine iload P at_241 rfl (n := 243) rfl ?_
                refine iconst P at_243 (x := (3 : Int32)) rfl (n := 244) rfl ?_
                refine icmp_ne P at_244 (n' := 263) (n := 247) (by decide) rfl (fun hc244 => ?_) (fun hc244 => ?_)
                · -- pc 244 taken
                  replace hc244 : ¬ z3.toInt = (3 : Int) := hc244
                  exfalso; omega
                · -- pc 244 not taken
                  replace hc244 : z3.toInt = (3 : Int) := hc244
                  refine lload P at_247 rfl (n := 249) rfl ?_
                  refine iload P at_249 rfl (n := 251) rfl ?_
                  refine i2l P at_251 (n := 252) rfl ?_
                  refine ladd P at_252 (n := 253) rfl ?_
                  refine lstore P at_253 (l' := #[.val (.int p0), .val (.int p1), .val (.int p2), .val (.int p3), .val (.int p4), .val (.int p5), .val (.int z2), .val (.int z3), .val (.int j1_8), .val (.int j1_9), .val (.int j2_10), .val (.int j2_11), .val (.int (p0 &&& (2147483647 : Int32))), .val (.int ((p0 >>> ((8 : Int32) &&& 31)) &&& (7 : Int32))), .val (.int (p0 &&& (255 : Int32))), .val (.ref (if z2.toInt = 1 then xe else if z2.toInt = 2 then xk else xv)), .val (.ref (if z3.toInt = 1 then xe else if z3.toInt = 2 then xk else xv)), .val (.ref b14), .val (.ref b20), .val (.ref b26), .val (.double (own_prec ((0 : Int64) + j2_10.toInt64) ((0 : Int64) + j2_11.toInt64))), .second, .val (.long ((0 : Int64) + (j2_10.toInt64))), .second, .val (.long (0 : Int64)), .second, .unset, .unset]) rfl (n := 255) rfl ?_
                  refine lload P at_255 rfl (n := 257) rfl ?_
                  refine iload P at_257 rfl (n := 259) rfl ?_
                  refine i2l P at_259 (n := 260) rfl ?_
                  refine ladd P at_260 (n := 261) rfl ?_
                  refine lstore P at_261 (l' := #[.val (.int p0), .val (.int p1), .val (.int p2), .val (.int p3), .val (.int p4), .val (.int p5), .val (.int z2), .val (.int z3), .val (.int j1_8), .val (.int j1_9), .val (.int j2_10), .val (.int j2_11), .val (.int (p0 &&& (2147483647 : Int32))), .val (.int ((p0 >>> ((8 : Int32) &&& 31)) &&& (7 : Int32))), .val (.int (p0 &&& (255 : Int32))), .val (.ref (if z2.toInt = 1 then xe else if z2.toInt = 2 then xk else xv)), .val (.ref (if z3.toInt = 1 then xe else if z3.toInt = 2 then xk else xv)), .val (.ref b14), .val (.ref b20), .val (.ref b26), .val (.double (own_prec ((0 : Int64) + j2_10.toInt64) ((0 : Int64) + j2_11.toInt64))), .second, .val (.long ((0 : Int64) + (j2_10.toInt64))), .second, .val (.long ((0 : Int64) + (j2_11.toInt64))), .second, .unset, .unset]) rfl (n := 263) rfl ?_
                  refine dconst0 P at_263 (n := 264) rfl ?_
                  refine dstore P at_264 (l' := #[.val (.int p0), .val (.int p1), .val (.int p2), .val (.int p3), .val (.int p4), .val (.int p5), .val (.int z2), .val (.int z3), .val (.int j1_8), .val (.int j1_9), .val (.int j2_10), .val (.int j2_11), .val (.int (p0 &&& (2147483647 : Int32))), .val (.int ((p0 >>> ((8 : Int32) &&& 31)) &&& (7 : Int32))), .val (.int (p0 &&& (255 : Int32))), .val (.ref (if z2.toInt = 1 then xe else if z2.toInt = 2 then xk else xv)), .val (.ref (if z3.toInt = 1 then xe else if z3.toInt = 2 then xk else xv)), .val (.ref b14), .val (.ref b20), .val (.ref b26), .val (.double (own_prec ((0 : Int64) + j2_10.toInt64) ((0 : Int64) + j2_11.toInt64))), .second, .val (.long ((0 : Int64) + (j2_10.toInt64))), .second, .val (.long ((0 : Int64) + (j2_11.toInt64))), .second, .val (.double (0 : UInt64)), .second]) rfl (n := 266) rfl ?_
                  refine lload P at_266 rfl (n := 268) rfl ?_
                  refine lconst P at_268 (x := (0 : Int64)) rfl (n := 269) rfl ?_
                  refine lcmp P at_269 (n := 270) rfl ?_
                  refine ifl_le P at_270 (n' := 286) (n := 273) (by decide) rfl (fun hc270 => ?_) (fun hc270 => ?_)
                  · -- pc 270 taken
                    replace hc270 : ((0 : Int64) + (j2_10.toInt64)).toInt ≤ (0 : Int) := hc270
                    refine dload P at_286 rfl (n := 288) rfl ?_
                    refine dload P at_288 rfl (n := 290) rfl ?_
                    refine dcmp P at_290 (v := (0 : Int32)) (Jvm.RoadKit.dcmpV_eq (by unfold own_prec; rw [if_neg (by first | omega | decide)]) (own_n _ _) _) (n := 291) rfl ?_
                    refine if0_ne P at_291 (n' := 298) (n := 294) (by decide) rfl (fun hc291 => ?_) (fun hc291 => ?_)
                    · -- pc 291 taken
                      replace hc291 : ¬ (0 : Int) = (0 : Int) := hc291
                      exact absurd hc291 (by decide)
                    · -- pc 291 not taken
                      replace hc291 : (0 : Int) = (0 : Int) := hc291
                      refine iconst P at_294 (x := (1 : Int32)) rfl (n := 295) rfl ?_
                      refine goto P at_295 (n := 299) (by decide) ?_
                      refine retZ P at_299 (by decide) (by decide) (by decide) ?_
                      exact rfl
                  · -- pc 270 not taken
                    replace hc270 : (0 : Int) < ((0 : Int64) + (j2_10.toInt64)).toInt := hc270
                    refine ldc2D P at_273 (hw _ (List.mem_of_getElem? (i := 122) rfl)) (n := 276) rfl ?_
                    refine lload P at_276 rfl (n := 278) rfl ?_
                    refine l2d P at_278 (n := 279) rfl ?_
                    refine dmul P at_279 (own_n1 ((0 : Int64) + (j2_11.toInt64))) (n := 280) rfl ?_
                    refine lload P at_280 rfl (n := 282) rfl ?_
                    refine l2d P at_282 (n := 283) rfl ?_
                    refine ddiv P at_283 (own_n2 _ _ (by omega)) (n := 284) rfl ?_
                    refine dstore P at_284 (l' := #[.val (.int p0), .val (.int p1), .val (.int p2), .val (.int p3), .val (.int p4), .val (.int p5), .val (.int z2), .val (.int z3), .val (.int j1_8), .val (.int j1_9), .val (.int j2_10), .val (.int j2_11), .val (.int (p0 &&& (2147483647 : Int32))), .val (.int ((p0 >>> ((8 : Int32) &&& 31)) &&& (7 : Int32))), .val (.int (p0 &&& (255 : Int32))), .val (.ref (if z2.toInt = 1 then xe else if z2.toInt = 2 then xk else xv)), .val (.ref (if z3.toInt = 1 then xe else if z3.toInt = 2 then xk else xv)), .val (.ref b14), .val (.ref b20), .val (.ref b26), .val (.double (own_prec ((0 : Int64) + j2_10.toInt64) ((0 : Int64) + j2_11.toInt64))), .second, .val (.long ((0 : Int64) + (j2_10.toInt64))), .second, .val (.long ((0 : Int64) + (j2_11.toInt64))), .second, .val (.double (FP.ddiv (FP.dmul (4636737291354636288 : UInt64) (FP.l2d ((0 : Int64) + (j2_11.toInt64)))) (FP.l2d ((0 : Int64) + (j2_10.toInt64))))), .second]) rfl (n := 286) rfl ?_
                    refine dload P at_286 rfl (n := 288) rfl ?_
                    refine dload P at_288 rfl (n := 290) rfl ?_
                    refine dcmp P at_290 (v := (0 : Int32)) (Jvm.RoadKit.dcmpV_eq (by unfold own_prec; rw [if_pos (by first | omega | decide)]) (own_n _ _) _) (n := 291) rfl ?_
                    refine if0_ne P at_291 (n' := 298) (n := 294) (by decide) rfl (fun hc291 => ?_) (fun hc291 => ?_)
                    · -- pc 291 taken
                      replace hc291 : ¬ (0 : Int) = (0 : Int) := hc291
                      exact absurd hc291 (by decide)
                    · -- pc 291 not taken
                      replace hc291 : (0 : Int) = (0 : Int) := hc291
                      refine iconst P at_294 (x := (1 : Int32)) rfl (n := 295) rfl ?_
                      refine goto P at_295 (n := 299) (by decide) ?_
                      refine retZ P at_299 (by decide) (by decide) (by decide) ?_
                      exact rfl
            · -- pc 217 not taken
              replace hc217 : z2.toInt = (3 : Int) := hc217
              exfalso; omega
      ·
        have O32 := qn (fun w => qq (hst.mp w))
        refine aload P at_189 rfl rfl (n := 191) rfl ?_
        refine aload P at_191 rfl rfl (n := 193) rfl ?_
        refine callV P at_193 (a := b26) (argsL := [(.ref b20)]) (rest := []) (c_add l Z a0 hw b26 b20 (if z3.toInt = 1 then xe else if z3.toInt = 2 then xk else xv) (p0 &&& (2147483647 : Int32)) j2_10 j2_11 ((p0 >>> ((8 : Int32) &&& 31)) &&& (7 : Int32)) (p0 &&& (255 : Int32)) (p0 &&& (255 : Int32)) ((0 : Int64) + j1_8.toInt64) ((0 : Int64) + j1_9.toInt64) xv xe xk  h30 n0 P.low O32 E_b20 F_b20_status F_b20_goldBrackets F_b20_parsedBrackets F_b20_matchedBrackets F_b20_crossingBrackets F_b20_words F_b20_correctTags (Sta.ext Old9.2 S_v) (Sta.ext Old9.2 S_e) (Sta.ext Old9.2 S_k) (Ne.symm ne_b20_b26) lo_b26) (O32.1) (hw _ (List.mem_of_getElem? (i := 48) rfl)) (hw _ (List.mem_of_getElem? (i := 49) rfl)) (notFace_of_selects (args := #[]) (mvT P.hZ (hw _ (List.mem_of_getElem? (i := 51) rfl)))) (hw _ (List.mem_of_getElem? (i := 51) rfl)) (hw _ (List.mem_of_getElem? (i := 50) rfl)) (hw _ (List.mem_of_getElem? (i := 43) rfl)) (hw _ (List.mem_of_getElem? (i := 52) rfl)) (by decide) pd_6 rfl rfl rfl ⟨by decide, Nat.le_of_ble_eq_true rfl, by decide, by decide⟩ (n := 196) rfl ?_
        rintro T h36 v P ⟨rfl, K37, qs, qn⟩
        replace E_b14 := Exa.keep E_b14 K37
        replace F_b14_status := Fld.keep F_b14_status K37 (ninS ne_b14_b26 nin0)
        replace F_b14_goldBrackets := Fld.keep F_b14_goldBrackets K37 (ninS ne_b14_b26 nin0)
        replace F_b14_parsedBrackets := Fld.keep F_b14_parsedBrackets K37 (ninS ne_b14_b26 nin0)
        replace F_b14_matchedBrackets := Fld.keep F_b14_matchedBrackets K37 (ninS ne_b14_b26 nin0)
        replace F_b14_crossingBrackets := Fld.keep F_b14_crossingBrackets K37 (ninS ne_b14_b26 nin0)
        replace F_b14_words := Fld.keep F_b14_words K37 (ninS ne_b14_b26 nin0)
        replace F_b14_correctTags := Fld.keep F_b14_correctTags K37 (ninS ne_b14_b26 nin0)
        replace E_b20 := Exa.keep E_b20 K37
        replace F_b20_status := Fld.keep F_b20_status K37 (ninS ne_b20_b26 nin0)
        replace F_b20_goldBrackets := Fld.keep F_b20_goldBrackets K37 (ninS ne_b20_b26 nin0)
        replace F_b20_parsedBrackets := Fld.keep F_b20_parsedBrackets K37 (ninS ne_b20_b26 nin0)
        replace F_b20_matchedBrackets := Fld.keep F_b20_matchedBrackets K37 (ninS ne_b20_b26 nin0)
        replace F_b20_crossingBrackets := Fld.keep F_b20_crossingBrackets K37 (ninS ne_b20_b26 nin0)
        replace F_b20_words := Fld.keep F_b20_words K37 (ninS ne_b20_b26 nin0)
        replace F_b20_correctTags := Fld.keep F_b20_correctTags K37 (ninS ne_b20_b26 nin0)
        replace Old9 := Old.keep Old9 K37 (allS lo_b26 all0)
        show Jvm.Own.Ends p e below s room_1 n0 (fun v _ => v = some (.int 1)) T (mkF m 196 #[.val (.int p0), .val (.int p1), .val (.int p2), .val (.int p3), .val (.int p4), .val (.int p5), .val (.int z2), .val (.int z3), .val (.int j1_8), .val (.int j1_9), .val (.int j2_10), .val (.int j2_11), .val (.int (p0 &&& (2147483647 : Int32))), .val (.int ((p0 >>> ((8 : Int32) &&& 31)) &&& (7 : Int32))), .val (.int (p0 &&& (255 : Int32))), .val (.ref (if z2.toInt = 1 then xe else if z2.toInt = 2 then xk else xv)), .val (.ref (if z3.toInt = 1 then xe else if z3.toInt = 2 then xk else xv)), .val (.ref b14), .val (.ref b20), .val (.ref b26), .unset, .unset, .unset, .unset, .unset, .unset, .unset, .unset] [])
        have hst : ((if z3.toInt = 1 then xe else if z3.toInt = 2 then xk else xv) = xe ∨ (if z3.toInt = 1 then xe else if z3.toInt = 2 then xk else xv) = xk) ↔ (z3.toInt = 1 ∨ z3.toInt = 2) := by
          by_cases r1 : z3.toInt = 1
          · simp [r1]
          · by_cases r2 : z3.toInt = 2
            · simp [r1, r2]
            · simp [r1, r2, hve, hvk]
        by_cases qq : (z3.toInt = 1 ∨ z3.toInt = 2)
        ·
          replace qs := qs (hst.mpr qq)
          have O38 := qs
          refine aload P at_196 rfl rfl (n := 198) rfl ?_
          refine callV P at_198 (a := b26) (argsL := []) (rest := []) (c_prec l Z a0 hw b26 ((0 : Int64) + j1_8.toInt64) ((0 : Int64) + j1_9.toInt64) h36 n0 P.low O38.2.2.1 O38.2.2.2) (O38.1) (hw _ (List.mem_of_getElem? (i := 116) rfl)) (hw _ (List.mem_of_getElem? (i := 117) rfl)) (notFace_of_selects (args := #[]) (mvT P.hZ (hw _ (List.mem_of_getElem? (i := 119) rfl)))) (hw _ (List.mem_of_getElem? (i := 119) rfl)) (hw _ (List.mem_of_getElem? (i := 118) rfl)) (hw _ (List.mem_of_getElem? (i := 43) rfl)) (hw _ (List.mem_of_getElem? (i := 120) rfl)) (by decide) pd_7 rfl rfl rfl ⟨by decide, Nat.le_of_ble_eq_true rfl, by decide, by decide⟩ (n := 201) rfl (Ret.on ?_)
          intro T P
          refine dstore P at_201 (l' := #[.val (.int p0), .val (.int p1), .val (.int p2), .val (.int p3), .val (.int p4), .val (.int p5), .val (.int z2), .val (.int z3), .val (.int j1_8), .val (.int j1_9), .val (.int j2_10), .val (.int j2_11), .val (.int (p0 &&& (2147483647 : Int32))), .val (.int ((p0 >>> ((8 : Int32) &&& 31)) &&& (7 : Int32))), .val (.int (p0 &&& (255 : Int32))), .val (.ref (if z2.toInt = 1 then xe else if z2.toInt = 2 then xk else xv)), .val (.ref (if z3.toInt = 1 then xe else if z3.toInt = 2 then xk else xv)), .val (.ref b14), .val (.ref b20), .val (.ref b26), .val (.double (own_prec ((0 : Int64) + j1_8.toInt64) ((0 : Int64) + j1_9.toInt64))), .second, .unset, .unset, .unset, .unset, .unset, .unset]) rfl (n := 203) rfl ?_
          refine lconst P at_203 (x := (0 : Int64)) rfl (n := 204) rfl ?_
          refine lstore P at_204 (l' := #[.val (.int p0), .val (.int p1), .val (.int p2), .val (.int p3), .val (.int p4), .val (.int p5), .val (.int z2), .val (.int z3), .val (.int j1_8), .val (.int j1_9), .val (.int j2_10), .val (.int j2_11), .val (.int (p0 &&& (2147483647 : Int32))), .val (.int ((p0 >>> ((8 : Int32) &&& 31)) &&& (7 : Int32))), .val (.int (p0 &&& (255 : Int32))), .val (.ref (if z2.toInt = 1 then xe else if z2.toInt = 2 then xk else xv)), .val (.ref (if z3.toInt = 1 then xe else if z3.toInt = 2 then xk else xv)), .val (.ref b14), .val (.ref b20), .val (.ref b26), .val (.double (own_prec ((0 : Int64) + j1_8.toInt64) ((0 : Int64) + j1_9.toInt64))), .second, .val (.long (0 : Int64)), .second, .unset, .unset, .unset, .unset]) rfl (n := 206) rfl ?_
          refine lconst P at_206 (x := (0 : Int64)) rfl (n := 207) rfl ?_
          refine lstore P at_207 (l' := #[.val (.int p0), .val (.int p1), .val (.int p2), .val (.int p3), .val (.int p4), .val (.int p5), .val (.int z2), .val (.int z3), .val (.int j1_8), .val (.int j1_9), .val (.int j2_10), .val (.int j2_11), .val (.int (p0 &&& (2147483647 : Int32))), .val (.int ((p0 >>> ((8 : Int32) &&& 31)) &&& (7 : Int32))), .val (.int (p0 &&& (255 : Int32))), .val (.ref (if z2.toInt = 1 then xe else if z2.toInt = 2 then xk else xv)), .val (.ref (if z3.toInt = 1 then xe else if z3.toInt = 2 then xk else xv)), .val (.ref b14), .val (.ref b20), .val (.ref b26), .val (.double (own_prec ((0 : Int64) + j1_8.toInt64) ((0 : Int64) + j1_9.toInt64))), .second, .val (.long (0 : Int64)), .second, .val (.long (0 : Int64)), .second, .unset, .unset]) rfl (n := 209) rfl ?_
          refine iload P at_209 rfl (n := 211) rfl ?_
          refine if0_eq P at_211 (n' := 220) (n := 214) (by decide) rfl (fun hc211 => ?_) (fun hc211 => ?_)
          · -- pc 211 taken
            replace hc211 : z2.toInt = (0 : Int) := hc211
            refine lload P at_220 rfl (n := 222) rfl ?_
            refine iload P at_222 rfl (n := 224) rfl ?_
            refine i2l P at_224 (n := 225) rfl ?_
            refine ladd P at_225 (n := 226) rfl ?_
            refine lstore P at_226 (l' := #[.val (.int p0), .val (.int p1), .val (.int p2), .val (.int p3), .val (.int p4), .val (.int p5), .val (.int z2), .val (.int z3), .val (.int j1_8), .val (.int j1_9), .val (.int j2_10), .val (.int j2_11), .val (.int (p0 &&& (2147483647 : Int32))), .val (.int ((p0 >>> ((8 : Int32) &&& 31)) &&& (7 : Int32))), .val (.int (p0 &&& (255 : Int32))), .val (.ref (if z2.toInt = 1 then xe else if z2.toInt = 2 then xk else xv)), .val (.ref (if z3.toInt = 1 then xe else if z3.toInt = 2 then xk else xv)), .val (.ref b14), .val (.ref b20), .val (.ref b26), .val (.double (own_prec ((0 : Int64) + j1_8.toInt64) ((0 : Int64) + j1_9.toInt64))), .second, .val (.long ((0 : Int64) + (j1_8.toInt64))), .second, .val (.long (0 : Int64)), .second, .unset, .unset]) rfl (n := 228) rfl ?_
            refine lload P at_228 rfl (n := 230) rfl ?_
            refine iload P at_230 rfl (n := 232) rfl ?_
            refine i2l P at_232 (n := 233) rfl ?_
            refine ladd P at_233 (n := 234) rfl ?_
            refine lstore P at_234 (l' := #[.val (.int p0), .val (.int p1), .val (.int p2), .val (.int p3), .val (.int p4), .val (.int p5), .val (.int z2), .val (.int z3), .val (.int j1_8), .val (.int j1_9), .val (.int j2_10), .val (.int j2_11), .val (.int (p0 &&& (2147483647 : Int32))), .val (.int ((p0 >>> ((8 : Int32) &&& 31)) &&& (7 : Int32))), .val (.int (p0 &&& (255 : Int32))), .val (.ref (if z2.toInt = 1 then xe else if z2.toInt = 2 then xk else xv)), .val (.ref (if z3.toInt = 1 then xe else if z3.toInt = 2 then xk else xv)), .val (.ref b14), .val (.ref b20), .val (.ref b26), .val (.double (own_prec ((0 : Int64) + j1_8.toInt64) ((0 : Int64) + j1_9.toInt64))), .second, .val (.long ((0 : Int64) + (j1_8.toInt64))), .second, .val (.long ((0 : Int64) + (j1_9.toInt64))), .second, .unset, .unset]) rfl (n := 236) rfl ?_
            refine iload P at_236 rfl (n := 238) rfl ?_
            refine if0_eq P at_238 (n' := 247) (n := 241) (by decide) rfl (fun hc238 => ?_) (fun hc238 => ?_)
            · -- pc 238 taken
              replace hc238 : z3.toInt = (0 : Int) := hc238
              exfalso; omega
            · -- pc 238 not taken
              replace hc238 : ¬ z3.toInt = (0 : Int) := hc238
              refine iload P at_241 rfl (n := 243) rfl ?_
              refine iconst P at_243 (x := (3 : Int32)) rfl (n := 244) rfl ?_
              refine icmp_ne P at_244 (n' := 263) (n := 247) (by decide) rfl (fun hc244 => ?_) (fun hc244 => ?_)
              · -- pc 244 taken
                replace hc244 : ¬ z3.toInt = (3 : Int) := hc244
                refine dconst0 P at_263 (n := 264) rfl ?_
                refine dstore P at_264 (l' := #[.val (.int p0), .val (.int p1), .val (.int p2), .val (.int p3), .val (.int p4), .val (.int p5), .val (.int z2), .val (.int z3), .val (.int j1_8), .val (.int j1_9), .val (.int j2_10), .val (.int j2_11), .val (.int (p0 &&& (2147483647 : Int32))), .val (.int ((p0 >>> ((8 : Int32) &&& 31)) &&& (7 : Int32))), .val (.int (p0 &&& (255 : Int32))), .val (.ref (if z2.toInt = 1 then xe else if z2.toInt = 2 then xk else xv)), .val (.ref (if z3.toInt = 1 then xe else if z3.toInt = 2 then xk else xv)), .val (.ref b14), .val (.ref b20), .val (.ref b26), .val (.double (own_prec ((0 : Int64) + j1_8.toInt64) ((0 : Int64) + j1_9.toInt64))), .second, .val (.long ((0 : Int64) + (j1_8.toInt64))), .second, .val (.long ((0 : Int64) + (j1_9.toInt64))), .second, .val (.double (0 : UInt64)), .second]) rfl (n := 266) rfl ?_
                refine lload P at_266 rfl (n := 268) rfl ?_
                refine lconst P at_268 (x := (0 : Int64)) rfl (n := 269) rfl ?_
                refine lcmp P at_269 (n := 270) rfl ?_
                refine ifl_le P at_270 (n' := 286) (n := 273) (by decide) rfl (fun hc270 => ?_) (fun hc270 => ?_)
                · -- pc 270 taken
                  replace hc270 : ((0 : Int64) + (j1_8.toInt64)).toInt ≤ (0 : Int) := hc270
                  refine dload P at_286 rfl (n := 288) rfl ?_
                  refine dload P at_288 rfl (n := 290) rfl ?_
                  refine dcmp P at_290 (v := (0 : Int32)) (Jvm.RoadKit.dcmpV_eq (by unfold own_prec; rw [if_neg (by first | omega | decide)]) (own_n _ _) _) (n := 291) rfl ?_
                  refine if0_ne P at_291 (n' := 298) (n := 294) (by decide) rfl (fun hc291 => ?_) (fun hc291 => ?_)
                  · -- pc 291 taken
                    replace hc291 : ¬ (0 : Int) = (0 : Int) := hc291
                    exact absurd hc291 (by decide)
                  · -- pc 291 not taken
                    replace hc291 : (0 : Int) = (0 : Int) := hc291
                    refine iconst P at_294 (x := (1 : Int32)) rfl (n := 295) rfl ?_
                    refine goto P at_295 (n := 299) (by decide) ?_
                    refine retZ P at_299 (by decide) (by decide) (by decide) ?_
                    exact rfl
                · -- pc 270 not taken
                  replace hc270 : (0 : Int) < ((0 : Int64) + (j1_8.toInt64)).toInt := hc270
                  refine ldc2D P at_273 (hw _ (List.mem_of_getElem? (i := 122) rfl)) (n := 276) rfl ?_
                  refine lload P at_276 rfl (n := 278) rfl ?_
                  refine l2d P at_278 (n := 279) rfl ?_
                  refine dmul P at_279 (own_n1 ((0 : Int64) + (j1_9.toInt64))) (n := 280) rfl ?_
                  refine lload P at_280 rfl (n := 282) rfl ?_
                  refine l2d P at_282 (n := 283) rfl ?_
                  refine ddiv P at_283 (own_n2 _ _ (by omega)) (n := 284) rfl ?_
                  refine dstore P at_284 (l' := #[.val (.int p0), .val (.int p1), .val (.int p2), .val (.int p3), .val (.int p4), .val (.int p5), .val (.int z2), .val (.int z3), .val (.int j1_8), .val (.int j1_9), .val (.int j2_10), .val (.int j2_11), .val (.int (p0 &&& (2147483647 : Int32))), .val (.int ((p0 >>> ((8 : Int32) &&& 31)) &&& (7 : Int32))), .val (.int (p0 &&& (255 : Int32))), .val (.ref (if z2.toInt = 1 then xe else if z2.toInt = 2 then xk else xv)), .val (.ref (if z3.toInt = 1 then xe else if z3.toInt = 2 then xk else xv)), .val (.ref b14), .val (.ref b20), .val (.ref b26), .val (.double (own_prec ((0 : Int64) + j1_8.toInt64) ((0 : Int64) + j1_9.toInt64))), .second, .val (.long ((0 : Int64) + (j1_8.toInt64))), .second, .val (.long ((0 : Int64) + (j1_9.toInt64))), .second, .val (.double (FP.ddiv (FP.dmul (4636737291354636288 : UInt64) (FP.l2d ((0 : Int64) + (j1_9.toInt64)))) (FP.l2d ((0 : Int64) + (j1_8.toInt64))))), .second]) rfl (n := 286) rfl ?_
                  refine dload P at_286 rfl (n := 288) rfl ?_
                  refine dload P at_288 rfl (n := 290) rfl ?_
                  refine dcmp P at_290 (v := (0 : Int32)) (Jvm.RoadKit.dcmpV_eq (by unfold own_prec; rw [if_pos (by first | omega | decide)]) (own_n _ _) _) (n := 291) rfl ?_
                  refine if0_ne P at_291 (n' := 298) (n := 294) (by decide) rfl (fun hc291 => ?_) (fun hc291 => ?_)
                  · -- pc 291 taken
                    replace hc291 : ¬ (0 : Int) = (0 : Int) := hc291
                    exact absurd hc291 (by decide)
                  · -- pc 291 not taken
                    replace hc291 : (0 : Int) = (0 : Int) := hc291
                    refine iconst P at_294 (x := (1 : Int32)) rfl (n := 295) rfl ?_
                    refine goto P at_295 (n := 299) (by decide) ?_
                    refine retZ P at_299 (by decide) (by decide) (by decide) ?_
                    exact rfl
              · -- pc 244 not taken
                replace hc244 : z3.toInt = (3 : Int) := hc244
                exfalso; omega
          · -- pc 211 not taken
            replace hc211 : ¬ z2.toInt = (0 : Int) := hc211
            refine iload P at_214 rfl (n := 216) rfl ?_
            refine iconst P at_216 (x := (3 : Int32)) rfl (n := 217) rfl ?_
            refine icmp_ne P at_217 (n' := 236) (n := 220) (by decide) rfl (fun hc217 => ?_) (fun hc217 => ?_)
            · -- pc 217 taken
              replace hc217 : ¬ z2.toInt = (3 : Int) := hc217
              exfalso; omega
            · -- pc 217 not taken
              replace hc217 : z2.toInt = (3 : Int) := hc217
              refine lload P at_220 rfl (n := 222) rfl ?_
              refine iload P at_222 rfl (n := 224) rfl ?_
              refine i2l P at_224 (n := 225) rfl ?_
              refine ladd P at_225 (n := 226) rfl ?_
              refine lstore P at_226 (l' := #[.val (.int p0), .val (.int p1), .val (.int p2), .val (.int p3), .val (.int p4), .val (.int p5), .val (.int z2), .val (.int z3), .val (.int j1_8), .val (.int j1_9), .val (.int j2_10), .val (.int j2_11), .val (.int (p0 &&& (2147483647 : Int32))), .val (.int ((p0 >>> ((8 : Int32) &&& 31)) &&& (7 : Int32))), .val (.int (p0 &&& (255 : Int32))), .val (.ref (if z2.toInt = 1 then xe else if z2.toInt = 2 then xk else xv)), .val (.ref (if z3.toInt = 1 then xe else if z3.toInt = 2 then xk else xv)), .val (.ref b14), .val (.ref b20), .val (.ref b26), .val (.double (own_prec ((0 : Int64) + j1_8.toInt64) ((0 : Int64) + j1_9.toInt64))), .second, .val (.long ((0 : Int64) + (j1_8.toInt64))), .second, .val (.long (0 : Int64)), .second, .unset, .unset]) rfl (n := 228) rfl ?_
              refine lload P at_228 rfl (n := 230) rfl ?_
              refine iload P at_230 rfl (n := 232) rfl ?_
              refine i2l P at_232 (n := 233) rfl ?_
              refine ladd P at_233 (n := 234) rfl ?_
              refine lstore P at_234 (l' := #[.val (.int p0), .val (.int p1), .val (.int p2), .val (.int p3), .val (.int p4), .val (.int p5), .val (.int z2), .val (.int z3), .val (.int j1_8), .val (.int j1_9), .val (.int j2_10), .val (.int j2_11), .val (.int (p0 &&& (2147483647 : Int32))), .val (.int ((p0 >>> ((8 : Int32) &&& 31)) &&& (7 : Int32))), .val (.int (p0 &&& (255 : Int32))), .val (.ref (if z2.toInt = 1 then xe else if z2.toInt = 2 then xk else xv)), .val (.ref (if z3.toInt = 1 then xe else if z3.toInt = 2 then xk else xv)), .val (.ref b14), .val (.ref b20), .val (.ref b26), .val (.double (own_prec ((0 : Int64) + j1_8.toInt64) ((0 : Int64) + j1_9.toInt64))), .second, .val (.long ((0 : Int64) + (j1_8.toInt64))), .second, .val (.long ((0 : Int64) + (j1_9.toInt64))), .second, .unset, .unset]) rfl (n := 236) rfl ?_
              refine iload P at_236 rfl (n := 238) rfl ?_
              refine if0_eq P at_238 (n' := 247) (n := 241) (by decide) rfl (fun hc238 => ?_) (fun hc238 => ?_)
              · -- pc 238 taken
                replace hc238 : z3.toInt = (0 : Int) := hc238
                exfalso; omega
              · -- pc 238 not taken
                replace hc238 : ¬ z3.toInt = (0 : Int) := hc238
                refine iload P at_241 rfl (n := 243) rfl ?_
                refine iconst P at_243 (x := (3 : Int32)) rfl (n := 244) rfl ?_
                refine icmp_ne P at_244 (n' := 263) (n := 247) (by decide) rfl (fun hc244 => ?_) (fun hc244 => ?_)
                · -- pc 244 taken
                  replace hc244 : ¬ z3.toInt = (3 : Int) := hc244
                  refine dconst0 P at_263 (n := 264) rfl ?_
                  refine dstore P at_264 (l' := #[.val (.int p0), .val (.int p1), .val (.int p2), .val (.int p3), .val (.int p4), .val (.int p5), .val (.int z2), .val (.int z3), .val (.int j1_8), .val (.int j1_9), .val (.int j2_10), .val (.int j2_11), .val (.int (p0 &&& (2147483647 : Int32))), .val (.int ((p0 >>> ((8 : Int32) &&& 31)) &&& (7 : Int32))), .val (.int (p0 &&& (255 : Int32))), .val (.ref (if z2.toInt = 1 then xe else if z2.toInt = 2 then xk else xv)), .val (.ref (if z3.toInt = 1 then xe else if z3.toInt = 2 then xk else xv)), .val (.ref b14), .val (.ref b20), .val (.ref b26), .val (.double (own_prec ((0 : Int64) + j1_8.toInt64) ((0 : Int64) + j1_9.toInt64))), .second, .val (.long ((0 : Int64) + (j1_8.toInt64))), .second, .val (.long ((0 : Int64) + (j1_9.toInt64))), .second, .val (.double (0 : UInt64)), .second]) rfl (n := 266) rfl ?_
                  refine lload P at_266 rfl (n := 268) rfl ?_
                  refine lconst P at_268 (x := (0 : Int64)) rfl (n := 269) rfl ?_
                  refine lcmp P at_269 (n := 270) rfl ?_
                  refine ifl_le P at_270 (n' := 286) (n := 273) (by decide) rfl (fun hc270 => ?_) (fun hc270 => ?_)
                  · -- pc 270 taken
                    replace hc270 : ((0 : Int64) + (j1_8.toInt64)).toInt ≤ (0 : Int) := hc270
                    refine dload P at_286 rfl (n := 288) rfl ?_
                    refine dload P at_288 rfl (n := 290) rfl ?_
                    refine dcmp P at_290 (v := (0 : Int32)) (Jvm.RoadKit.dcmpV_eq (by unfold own_prec; rw [if_neg (by first | omega | decide)]) (own_n _ _) _) (n := 291) rfl ?_
                    refine if0_ne P at_291 (n' := 298) (n := 294) (by decide) rfl (fun hc291 => ?_) (fun hc291 => ?_)
                    · -- pc 291 taken
                      replace hc291 : ¬ (0 : Int) = (0 : Int) := hc291
                      exact absurd hc291 (by decide)
                    · -- pc 291 not taken
                      replace hc291 : (0 : Int) = (0 : Int) := hc291
                      refine iconst P at_294 (x := (1 : Int32)) rfl (n := 295) rfl ?_
                      refine goto P at_295 (n := 299) (by decide) ?_
                      refine retZ P at_299 (by decide) (by decide) (by decide) ?_
                      exact rfl
                  · -- pc 270 not taken
                    replace hc270 : (0 : Int) < ((0 : Int64) + (j1_8.toInt64)).toInt := hc270
                    refine ldc2D P at_273 (hw _ (List.mem_of_getElem? (i := 122) rfl)) (n := 276) rfl ?_
                    refine lload P at_276 rfl (n := 278) rfl ?_
                    refine l2d P at_278 (n := 279) rfl ?_
                    refine dmul P at_279 (own_n1 ((0 : Int64) + (j1_9.toInt64))) (n := 280) rfl ?_
                    refine lload P at_280 rfl (n := 282) rfl ?_
                    refine l2d P at_282 (n := 283) rfl ?_
                    refine ddiv P at_283 (own_n2 _ _ (by omega)) (n := 284) rfl ?_
                    refine dstore P at_284 (l' := #[.val (.int p0), .val (.int p1), .val (.int p2), .val (.int p3), .val (.int p4), .val (.int p5), .val (.int z2), .val (.int z3), .val (.int j1_8), .val (.int j1_9), .val (.int j2_10), .val (.int j2_11), .val (.int (p0 &&& (2147483647 : Int32))), .val (.int ((p0 >>> ((8 : Int32) &&& 31)) &&& (7 : Int32))), .val (.int (p0 &&& (255 : Int32))), .val (.ref (if z2.toInt = 1 then xe else if z2.toInt = 2 then xk else xv)), .val (.ref (if z3.toInt = 1 then xe else if z3.toInt = 2 then xk else xv)), .val (.ref b14), .val (.ref b20), .val (.ref b26), .val (.double (own_prec ((0 : Int64) + j1_8.toInt64) ((0 : Int64) + j1_9.toInt64))), .second, .val (.long ((0 : Int64) + (j1_8.toInt64))), .second, .val (.long ((0 : Int64) + (j1_9.toInt64))), .second, .val (.double (FP.ddiv (FP.dmul (4636737291354636288 : UInt64) (FP.l2d ((0 : Int64) + (j1_9.toInt64)))) (FP.l2d ((0 : Int64) + (j1_8.toInt64))))), .second]) rfl (n := 286) rfl ?_
                    refine dload P at_286 rfl (n := 288) rfl ?_
                    refine dload P at_288 rfl (n := 290) rfl ?_
                    refine dcmp P at_290 (v := (0 : Int32)) (Jvm.RoadKit.dcmpV_eq (by unfold own_prec; rw [if_pos (by first | omega | decide)]) (own_n _ _) _) (n := 291) rfl ?_
                    refine if0_ne P at_291 (n' := 298) (n := 294) (by decide) rfl (fun hc291 => ?_) (fun hc291 => ?_)
                    · -- pc 291 taken
                      replace hc291 : ¬ (0 : Int) = (0 : Int) := hc291
                      exact absurd hc291 (by decide)
                    · -- pc 291 not taken
                      replace hc291 : (0 : Int) = (0 : Int) := hc291
                      refine iconst P at_294 (x := (1 : Int32)) rfl (n := 295) rfl ?_
                      refine goto P at_295 (n := 299) (by decide) ?_
                      refine retZ P at_299 (by decide) (by decide) (by decide) ?_
                      exact rfl
                · -- pc 244 not taken
                  replace hc244 : z3.toInt = (3 : Int) := hc244
                  exfalso; omega
        ·
          have O38 := qn (fun w => qq (hst.mp w))
          refine aload P at_196 rfl rfl (n := 198) rfl ?_
          refine callV P at_198 (a := b26) (argsL := []) (rest := []) (c_prec l Z a0 hw b26 (((0 : Int64) + j1_8.toInt64) + j2_10.toInt64) (((0 : Int64) + j1_9.toInt64) + j2_11.toInt64) h36 n0 P.low O38.2.2.1 O38.2.2.2) (O38.1) (hw _ (List.mem_of_getElem? (i := 116) rfl)) (hw _ (List.mem_of_getElem? (i := 117) rfl)) (notFace_of_selects (args := #[]) (mvT P.hZ (hw _ (List.mem_of_getElem? (i := 119) rfl)))) (hw _ (List.mem_of_getElem? (i := 119) rfl)) (hw _ (List.mem_of_getElem? (i := 118) rfl)) (hw _ (List.mem_of_getElem? (i := 43) rfl)) (hw _ (List.mem_of_getElem? (i := 120) rfl)) (by decide) pd_7 rfl rfl rfl ⟨by decide, Nat.le_of_ble_eq_true rfl, by decide, by decide⟩ (n := 201) rfl (Ret.on ?_)
          intro T P
          refine dstore P at_201 (l' := #[.val (.int p0), .val (.int p1), .val (.int p2), .val (.int p3), .val (.int p4), .val (.int p5), .val (.int z2), .val (.int z3), .val (.int j1_8), .val (.int j1_9), .val (.int j2_10), .val (.int j2_11), .val (.int (p0 &&& (2147483647 : Int32))), .val (.int ((p0 >>> ((8 : Int32) &&& 31)) &&& (7 : Int32))), .val (.int (p0 &&& (255 : Int32))), .val (.ref (if z2.toInt = 1 then xe else if z2.toInt = 2 then xk else xv)), .val (.ref (if z3.toInt = 1 then xe else if z3.toInt = 2 then xk else xv)), .val (.ref b14), .val (.ref b20), .val (.ref b26), .val (.double (own_prec (((0 : Int64) + j1_8.toInt64) + j2_10.toInt64) (((0 : Int64) + j1_9.toInt64) + j2_11.toInt64))), .second, .unset, .unset, .unset, .unset, .unset, .unset]) rfl (n := 203) rfl ?_
          refine lconst P at_203 (x := (0 : Int64)) rfl (n := 204) rfl ?_
          refine lstore P at_204 (l' := #[.val (.int p0), .val (.int p1), .val (.int p2), .val (.int p3), .val (.int p4), .val (.int p5), .val (.int z2), .val (.int z3), .val (.int j1_8), .val (.int j1_9), .val (.int j2_10), .val (.int j2_11), .val (.int (p0 &&& (2147483647 : Int32))), .val (.int ((p0 >>> ((8 : Int32) &&& 31)) &&& (7 : Int32))), .val (.int (p0 &&& (255 : Int32))), .val (.ref (if z2.toInt = 1 then xe else if z2.toInt = 2 then xk else xv)), .val (.ref (if z3.toInt = 1 then xe else if z3.toInt = 2 then xk else xv)), .val (.ref b14), .val (.ref b20), .val (.ref b26), .val (.double (own_prec (((0 : Int64) + j1_8.toInt64) + j2_10.toInt64) (((0 : Int64) + j1_9.toInt64) + j2_11.toInt64))), .second, .val (.long (0 : Int64)), .second, .unset, .unset, .unset, .unset]) rfl (n := 206) rfl ?_
          refine lconst P at_206 (x := (0 : Int64)) rfl (n := 207) rfl ?_
          refine lstore P at_207 (l' := #[.val (.int p0), .val (.int p1), .val (.int p2), .val (.int p3), .val (.int p4), .val (.int p5), .val (.int z2), .val (.int z3), .val (.int j1_8), .val (.int j1_9), .val (.int j2_10), .val (.int j2_11), .val (.int (p0 &&& (2147483647 : Int32))), .val (.int ((p0 >>> ((8 : Int32) &&& 31)) &&& (7 : Int32))), .val (.int (p0 &&& (255 : Int32))), .val (.ref (if z2.toInt = 1 then xe else if z2.toInt = 2 then xk else xv)), .val (.ref (if z3.toInt = 1 then xe else if z3.toInt = 2 then xk else xv)), .val (.ref b14), .val (.ref b20), .val (.ref b26), .val (.double (own_prec (((0 : Int64) + j1_8.toInt64) + j2_10.toInt64) (((0 : Int64) + j1_9.toInt64) + j2_11.toInt64))), .second, .val (.long (0 : Int64)), .second, .val (.long (0 : Int64)), .second, .unset, .unset]) rfl (n := 209) rfl ?_
          refine iload P at_209 rfl (n := 211) rfl ?_
          refine if0_eq P at_211 (n' := 220) (n := 214) (by decide) rfl (fun hc211 => ?_) (fun hc211 => ?_)
          · -- pc 211 taken
            replace hc211 : z2.toInt = (0 : Int) := hc211
            refine lload P at_220 rfl (n := 222) rfl ?_
            refine iload P at_222 rfl (n := 224) rfl ?_
            refine i2l P at_224 (n := 225) rfl ?_
            refine ladd P at_225 (n := 226) rfl ?_
            refine lstore P at_226 (l' := #[.val (.int p0), .val (.int p1), .val (.int p2), .val (.int p3), .val (.int p4), .val (.int p5), .val (.int z2), .val (.int z3), .val (.int j1_8), .val (.int j1_9), .val (.int j2_10), .val (.int j2_11), .val (.int (p0 &&& (2147483647 : Int32))), .val (.int ((p0 >>> ((8 : Int32) &&& 31)) &&& (7 : Int32))), .val (.int (p0 &&& (255 : Int32))), .val (.ref (if z2.toInt = 1 then xe else if z2.toInt = 2 then xk else xv)), .val (.ref (if z3.toInt = 1 then xe else if z3.toInt = 2 then xk else xv)), .val (.ref b14), .val (.ref b20), .val (.ref b26), .val (.double (own_prec (((0 : Int64) + j1_8.toInt64) + j2_10.toInt64) (((0 : Int64) + j1_9.toInt64) + j2_11.toInt64))), .second, .val (.long ((0 : Int64) + (j1_8.toInt64))), .second, .val (.long (0 : Int64)), .second, .unset, .unset]) rfl (n := 228) rfl ?_
            refine lload P at_228 rfl (n := 230) rfl ?_
            refine iload P at_230 rfl (n := 232) rfl ?_
            refine i2l P at_232 (n := 233) rfl ?_
            refine ladd P at_233 (n := 234) rfl ?_
            refine lstore P at_234 (l' := #[.val (.int p0), .val (.int p1), .val (.int p2), .val (.int p3), .val (.int p4), .val (.int p5), .val (.int z2), .val (.int z3), .val (.int j1_8), .val (.int j1_9), .val (.int j2_10), .val (.int j2_11), .val (.int (p0 &&& (2147483647 : Int32))), .val (.int ((p0 >>> ((8 : Int32) &&& 31)) &&& (7 : Int32))), .val (.int (p0 &&& (255 : Int32))), .val (.ref (if z2.toInt = 1 then xe else if z2.toInt = 2 then xk else xv)), .val (.ref (if z3.toInt = 1 then xe else if z3.toInt = 2 then xk else xv)), .val (.ref b14), .val (.ref b20), .val (.ref b26), .val (.double (own_prec (((0 : Int64) + j1_8.toInt64) + j2_10.toInt64) (((0 : Int64) + j1_9.toInt64) + j2_11.toInt64))), .second, .val (.long ((0 : Int64) + (j1_8.toInt64))), .second, .val (.long ((0 : Int64) + (j1_9.toInt64))), .second, .unset, .unset]) rfl (n := 236) rfl ?_
            refine iload P at_236 rfl (n := 238) rfl ?_
            refine if0_eq P at_238 (n' := 247) (n := 241) (by decide) rfl (fun hc238 => ?_) (fun hc238 => ?_)
            · -- pc 238 taken
              replace hc238 : z3.toInt = (0 : Int) := hc238
              refine lload P at_247 rfl (n := 249) rfl ?_
              refine iload P at_249 rfl (n := 251) rfl ?_
              refine i2l P at_251 (n := 252) rfl ?_
              refine ladd P at_252 (n := 253) rfl ?_
              refine lstore P at_253 (l' := #[.val (.int p0), .val (.int p1), .val (.int p2), .val (.int p3), .val (.int p4), .val (.int p5), .val (.int z2), .val (.int z3), .val (.int j1_8), .val (.int j1_9), .val (.int j2_10), .val (.int j2_11), .val (.int (p0 &&& (2147483647 : Int32))), .val (.int ((p0 >>> ((8 : Int32) &&& 31)) &&& (7 : Int32))), .val (.int (p0 &&& (255 : Int32))), .val (.ref (if z2.toInt = 1 then xe else if z2.toInt = 2 then xk else xv)), .val (.ref (if z3.toInt = 1 then xe else if z3.toInt = 2 then xk else xv)), .val (.ref b14), .val (.ref b20), .val (.ref b26), .val (.double (own_prec (((0 : Int64) + j1_8.toInt64) + j2_10.toInt64) (((0 : Int64) + j1_9.toInt64) + j2_11.toInt64))), .second, .val (.long (((0 : Int64) + (j1_8.toInt64)) + (j2_10.toInt64))), .second, .val (.long ((0 : Int64) + (j1_9.toInt64))), .second, .unset, .unset]) rfl (n := 255) rfl ?_
              refine lload P at_255 rfl (n := 257) rfl ?_
              refine iload P at_257 rfl (n := 259) rfl ?_
              refine i2l P at_259 (n := 260) rfl ?_
              refine ladd P at_260 (n := 261) rfl ?_
              refine lstore P at_261 (l' := #[.val (.int p0), .val (.int p1), .val (.int p2), .val (.int p3), .val (.int p4), .val (.int p5), .val (.int z2), .val (.int z3), .val (.int j1_8), .val (.int j1_9), .val (.int j2_10), .val (.int j2_11), .val (.int (p0 &&& (2147483647 : Int32))), .val (.int ((p0 >>> ((8 : Int32) &&& 31)) &&& (7 : Int32))), .val (.int (p0 &&& (255 : Int32))), .val (.ref (if z2.toInt = 1 then xe else if z2.toInt = 2 then xk else xv)), .val (.ref (if z3.toInt = 1 then xe else if z3.toInt = 2 then xk else xv)), .val (.ref b14), .val (.ref b20), .val (.ref b26), .val (.double (own_prec (((0 : Int64) + j1_8.toInt64) + j2_10.toInt64) (((0 : Int64) + j1_9.toInt64) + j2_11.toInt64))), .second, .val (.long (((0 : Int64) + (j1_8.toInt64)) + (j2_10.toInt64))), .second, .val (.long (((0 : Int64) + (j1_9.toInt64)) + (j2_11.toInt64))), .second, .unset, .unset]) rfl (n := 263) rfl ?_
              refine dconst0 P at_263 (n := 264) rfl ?_
              refine dstore P at_264 (l' := #[.val (.int p0), .val (.int p1), .val (.int p2), .val (.int p3), .val (.int p4), .val (.int p5), .val (.int z2), .val (.int z3), .val (.int j1_8), .val (.int j1_9), .val (.int j2_10), .val (.int j2_11), .val (.int (p0 &&& (2147483647 : Int32))), .val (.int ((p0 >>> ((8 : Int32) &&& 31)) &&& (7 : Int32))), .val (.int (p0 &&& (255 : Int32))), .val (.ref (if z2.toInt = 1 then xe else if z2.toInt = 2 then xk else xv)), .val (.ref (if z3.toInt = 1 then xe else if z3.toInt = 2 then xk else xv)), .val (.ref b14), .val (.ref b20), .val (.ref b26), .val (.double (own_prec (((0 : Int64) + j1_8.toInt64) + j2_10.toInt64) (((0 : Int64) + j1_9.toInt64) + j2_11.toInt64))), .second, .val (.long (((0 : Int64) + (j1_8.toInt64)) + (j2_10.toInt64))), .second, .val (.long (((0 : Int64) + (j1_9.toInt64)) + (j2_11.toInt64))), .second, .val (.double (0 : UInt64)), .second]) rfl (n := 266) rfl ?_
              refine lload P at_266 rfl (n := 268) rfl ?_
              refine lconst P at_268 (x := (0 : Int64)) rfl (n := 269) rfl ?_
              refine lcmp P at_269 (n := 270) rfl ?_
              refine ifl_le P at_270 (n' := 286) (n := 273) (by decide) rfl (fun hc270 => ?_) (fun hc270 => ?_)
              · -- pc 270 taken
                replace hc270 : (((0 : Int64) + (j1_8.toInt64)) + (j2_10.toInt64)).toInt ≤ (0 : Int) := hc270
                refine dload P at_286 rfl (n := 288) rfl ?_
                refine dload P at_288 rfl (n := 290) rfl ?_
                refine dcmp P at_290 (v := (0 : Int32)) (Jvm.RoadKit.dcmpV_eq (by unfold own_prec; rw [if_neg (by first | omega | decide)]) (own_n _ _) _) (n := 291) rfl ?_
                refine if0_ne P at_291 (n' := 298) (n := 294) (by decide) rfl (fun hc291 => ?_) (fun hc291 => ?_)
                · -- pc 291 taken
                  replace hc291 : ¬ (0 : Int) = (0 : Int) := hc291
                  exact absurd hc291 (by decide)
                · -- pc 291 not taken
                  replace hc291 : (0 : Int) = (0 : Int) := hc291
                  refine iconst P at_294 (x := (1 : Int32)) rfl (n := 295) rfl ?_
                  refine goto P at_295 (n := 299) (by decide) ?_
                  refine retZ P at_299 (by decide) (by decide) (by decide) ?_
                  exact rfl
              · -- pc 270 not taken
                replace hc270 : (0 : Int) < (((0 : Int64) + (j1_8.toInt64)) + (j2_10.toInt64)).toInt := hc270
                refine ldc2D P at_273 (hw _ (List.mem_of_getElem? (i := 122) rfl)) (n := 276) rfl ?_
                refine lload P at_276 rfl (n := 278) rfl ?_
                refine l2d P at_278 (n := 279) rfl ?_
                refine dmul P at_279 (own_n1 (((0 : Int64) + (j1_9.toInt64)) + (j2_11.toInt64))) (n := 280) rfl ?_
                refine lload P at_280 rfl (n := 282) rfl ?_
                refine l2d P at_282 (n := 283) rfl ?_
                refine ddiv P at_283 (own_n2 _ _ (by omega)) (n := 284) rfl ?_
                refine dstore P at_284 (l' := #[.val (.int p0), .val (.int p1), .val (.int p2), .val (.int p3), .val (.int p4), .val (.int p5), .val (.int z2), .val (.int z3), .val (.int j1_8), .val (.int j1_9), .val (.int j2_10), .val (.int j2_11), .val (.int (p0 &&& (2147483647 : Int32))), .val (.int ((p0 >>> ((8 : Int32) &&& 31)) &&& (7 : Int32))), .val (.int (p0 &&& (255 : Int32))), .val (.ref (if z2.toInt = 1 then xe else if z2.toInt = 2 then xk else xv)), .val (.ref (if z3.toInt = 1 then xe else if z3.toInt = 2 then xk else xv)), .val (.ref b14), .val (.ref b20), .val (.ref b26), .val (.double (own_prec (((0 : Int64) + j1_8.toInt64) + j2_10.toInt64) (((0 : Int64) + j1_9.toInt64) + j2_11.toInt64))), .second, .val (.long (((0 : Int64) + (j1_8.toInt64)) + (j2_10.toInt64))), .second, .val (.long (((0 : Int64) + (j1_9.toInt64)) + (j2_11.toInt64))), .second, .val (.double (FP.ddiv (FP.dmul (4636737291354636288 : UInt64) (FP.l2d (((0 : Int64) + (j1_9.toInt64)) + (j2_11.toInt64)))) (FP.l2d (((0 : Int64) + (j1_8.toInt64)) + (j2_10.toInt64))))), .second]) rfl (n := 286) rfl ?_
                refine dload P at_286 rfl (n := 288) rfl ?_
                refine dload P at_288 rfl (n := 290) rfl ?_
                refine dcmp P at_290 (v := (0 : Int32)) (Jvm.RoadKit.dcmpV_eq (by unfold own_prec; rw [if_pos (by first | omega | decide)]) (own_n _ _) _) (n := 291) rfl ?_
                refine if0_ne P at_291 (n' := 298) (n := 294) (by decide) rfl (fun hc291 => ?_) (fun hc291 => ?_)
                · -- pc 291 taken
                  replace hc291 : ¬ (0 : Int) = (0 : Int) := hc291
                  exact absurd hc291 (by decide)
                · -- pc 291 not taken
                  replace hc291 : (0 : Int) = (0 : Int) := hc291
                  refine iconst P at_294 (x := (1 : Int32)) rfl (n := 295) rfl ?_
                  refine goto P at_295 (n := 299) (by decide) ?_
                  refine retZ P at_299 (by decide) (by decide) (by decide) ?_
                  exact rfl
            · -- pc 238 not taken
              replace hc238 : ¬ z3.toInt = (0 : Int) := hc238
              refine iload P at_241 rfl (n := 243) rfl ?_
              refine iconst P at_243 (x := (3 : Int32)) rfl (n := 244) rfl ?_
              refine icmp_ne P at_244 (n' := 263) (n := 247) (by decide) rfl (fun hc244 => ?_) (fun hc244 => ?_)
              · -- pc 244 taken
                replace hc244 : ¬ z3.toInt = (3 : Int) := hc244
                exfalso; omega
              · -- pc 244 not taken
                replace hc244 : z3.toInt = (3 : Int) := hc244
                refine lload P at_247 rfl (n := 249) rfl ?_
                refine iload P at_249 rfl (n := 251) rfl ?_
                refine i2l P at_251 (n := 252) rfl ?_
                refine ladd P at_252 (n := 253) rfl ?_
                refine lstore P at_253 (l' := #[.val (.int p0), .val (.int p1), .val (.int p2), .val (.int p3), .val (.int p4), .val (.int p5), .val (.int z2), .val (.int z3), .val (.int j1_8), .val (.int j1_9), .val (.int j2_10), .val (.int j2_11), .val (.int (p0 &&& (2147483647 : Int32))), .val (.int ((p0 >>> ((8 : Int32) &&& 31)) &&& (7 : Int32))), .val (.int (p0 &&& (255 : Int32))), .val (.ref (if z2.toInt = 1 then xe else if z2.toInt = 2 then xk else xv)), .val (.ref (if z3.toInt = 1 then xe else if z3.toInt = 2 then xk else xv)), .val (.ref b14), .val (.ref b20), .val (.ref b26), .val (.double (own_prec (((0 : Int64) + j1_8.toInt64) + j2_10.toInt64) (((0 : Int64) + j1_9.toInt64) + j2_11.toInt64))), .second, .val (.long (((0 : Int64) + (j1_8.toInt64)) + (j2_10.toInt64))), .second, .val (.long ((0 : Int64) + (j1_9.toInt64))), .second, .unset, .unset]) rfl (n := 255) rfl ?_
                refine lload P at_255 rfl (n := 257) rfl ?_
                refine iload P at_257 rfl (n := 259) rfl ?_
                refine i2l P at_259 (n := 260) rfl ?_
                refine ladd P at_260 (n := 261) rfl ?_
                refine lstore P at_261 (l' := #[.val (.int p0), .val (.int p1), .val (.int p2), .val (.int p3), .val (.int p4), .val (.int p5), .val (.int z2), .val (.int z3), .val (.int j1_8), .val (.int j1_9), .val (.int j2_10), .val (.int j2_11), .val (.int (p0 &&& (2147483647 : Int32))), .val (.int ((p0 >>> ((8 : Int32) &&& 31)) &&& (7 : Int32))), .val (.int (p0 &&& (255 : Int32))), .val (.ref (if z2.toInt = 1 then xe else if z2.toInt = 2 then xk else xv)), .val (.ref (if z3.toInt = 1 then xe else if z3.toInt = 2 then xk else xv)), .val (.ref b14), .val (.ref b20), .val (.ref b26), .val (.double (own_prec (((0 : Int64) + j1_8.toInt64) + j2_10.toInt64) (((0 : Int64) + j1_9.toInt64) + j2_11.toInt64))), .second, .val (.long (((0 : Int64) + (j1_8.toInt64)) + (j2_10.toInt64))), .second, .val (.long (((0 : Int64) + (j1_9.toInt64)) + (j2_11.toInt64))), .second, .unset, .unset]) rfl (n := 263) rfl ?_
                refine dconst0 P at_263 (n := 264) rfl ?_
                refine dstore P at_264 (l' := #[.val (.int p0), .val (.int p1), .val (.int p2), .val (.int p3), .val (.int p4), .val (.int p5), .val (.int z2), .val (.int z3), .val (.int j1_8), .val (.int j1_9), .val (.int j2_10), .val (.int j2_11), .val (.int (p0 &&& (2147483647 : Int32))), .val (.int ((p0 >>> ((8 : Int32) &&& 31)) &&& (7 : Int32))), .val (.int (p0 &&& (255 : Int32))), .val (.ref (if z2.toInt = 1 then xe else if z2.toInt = 2 then xk else xv)), .val (.ref (if z3.toInt = 1 then xe else if z3.toInt = 2 then xk else xv)), .val (.ref b14), .val (.ref b20), .val (.ref b26), .val (.double (own_prec (((0 : Int64) + j1_8.toInt64) + j2_10.toInt64) (((0 : Int64) + j1_9.toInt64) + j2_11.toInt64))), .second, .val (.long (((0 : Int64) + (j1_8.toInt64)) + (j2_10.toInt64))), .second, .val (.long (((0 : Int64) + (j1_9.toInt64)) + (j2_11.toInt64))), .second, .val (.double (0 : UInt64)), .second]) rfl (n := 266) rfl ?_
                refine lload P at_266 rfl (n := 268) rfl ?_
                refine lconst P at_268 (x := (0 : Int64)) rfl (n := 269) rfl ?_
                refine lcmp P at_269 (n := 270) rfl ?_
                refine ifl_le P at_270 (n' := 286) (n := 273) (by decide) rfl (fun hc270 => ?_) (fun hc270 => ?_)
                · -- pc 270 taken
                  replace hc270 : (((0 : Int64) + (j1_8.toInt64)) + (j2_10.toInt64)).toInt ≤ (0 : Int) := hc270
                  refine dload P at_286 rfl (n := 288) rfl ?_
                  refine dload P at_288 rfl (n := 290) rfl ?_
                  refine dcmp P at_290 (v := (0 : Int32)) (Jvm.RoadKit.dcmpV_eq (by unfold own_prec; rw [if_neg (by first | omega | decide)]) (own_n _ _) _) (n := 291) rfl ?_
                  refine if0_ne P at_291 (n' := 298) (n := 294) (by decide) rfl (fun hc291 => ?_) (fun hc291 => ?_)
                  · -- pc 291 taken
                    replace hc291 : ¬ (0 : Int) = (0 : Int) := hc291
                    exact absurd hc291 (by decide)
                  · -- pc 291 not taken
                    replace hc291 : (0 : Int) = (0 : Int) := hc291
                    refine iconst P at_294 (x := (1 : Int32)) rfl (n := 295) rfl ?_
                    refine goto P at_295 (n := 299) (by decide) ?_
                    refine retZ P at_299 (by decide) (by decide) (by decide) ?_
                    exact rfl
                · -- pc 270 not taken
                  replace hc270 : (0 : Int) < (((0 : Int64) + (j1_8.toInt64)) + (j2_10.toInt64)).toInt := hc270
                  refine ldc2D P at_273 (hw _ (List.mem_of_getElem? (i := 122) rfl)) (n := 276) rfl ?_
                  refine lload P at_276 rfl (n := 278) rfl ?_
                  refine l2d P at_278 (n := 279) rfl ?_
                  refine dmul P at_279 (own_n1 (((0 : Int64) + (j1_9.toInt64)) + (j2_11.toInt64))) (n := 280) rfl ?_
                  refine lload P at_280 rfl (n := 282) rfl ?_
                  refine l2d P at_282 (n := 283) rfl ?_
                  refine ddiv P at_283 (own_n2 _ _ (by omega)) (n := 284) rfl ?_
                  refine dstore P at_284 (l' := #[.val (.int p0), .val (.int p1), .val (.int p2), .val (.int p3), .val (.int p4), .val (.int p5), .val (.int z2), .val (.int z3), .val (.int j1_8), .val (.int j1_9), .val (.int j2_10), .val (.int j2_11), .val (.int (p0 &&& (2147483647 : Int32))), .val (.int ((p0 >>> ((8 : Int32) &&& 31)) &&& (7 : Int32))), .val (.int (p0 &&& (255 : Int32))), .val (.ref (if z2.toInt = 1 then xe else if z2.toInt = 2 then xk else xv)), .val (.ref (if z3.toInt = 1 then xe else if z3.toInt = 2 then xk else xv)), .val (.ref b14), .val (.ref b20), .val (.ref b26), .val (.double (own_prec (((0 : Int64) + j1_8.toInt64) + j2_10.toInt64) (((0 : Int64) + j1_9.toInt64) + j2_11.toInt64))), .second, .val (.long (((0 : Int64) + (j1_8.toInt64)) + (j2_10.toInt64))), .second, .val (.long (((0 : Int64) + (j1_9.toInt64)) + (j2_11.toInt64))), .second, .val (.double (FP.ddiv (FP.dmul (4636737291354636288 : UInt64) (FP.l2d (((0 : Int64) + (j1_9.toInt64)) + (j2_11.toInt64)))) (FP.l2d (((0 : Int64) + (j1_8.toInt64)) + (j2_10.toInt64))))), .second]) rfl (n := 286) rfl ?_
                  refine dload P at_286 rfl (n := 288) rfl ?_
                  refine dload P at_288 rfl (n := 290) rfl ?_
                  refine dcmp P at_290 (v := (0 : Int32)) (Jvm.RoadKit.dcmpV_eq (by unfold own_prec; rw [if_pos (by first | omega | decide)]) (own_n _ _) _) (n := 291) rfl ?_
                  refine if0_ne P at_291 (n' := 298) (n := 294) (by decide) rfl (fun hc291 => ?_) (fun hc291 => ?_)
                  · -- pc 291 taken
                    replace hc291 : ¬ (0 : Int) = (0 : Int) := hc291
                    exact absurd hc291 (by decide)
                  · -- pc 291 not taken
                    replace hc291 : (0 : Int) = (0 : Int) := hc291
                    refine iconst P at_294 (x := (1 : Int32)) rfl (n := 295) rfl ?_
                    refine goto P at_295 (n := 299) (by decide) ?_
                    refine retZ P at_299 (by decide) (by decide) (by decide) ?_
                    exact rfl
          · -- pc 211 not taken
            replace hc211 : ¬ z2.toInt = (0 : Int) := hc211
            refine iload P at_214 rfl (n := 216) rfl ?_
            refine iconst P at_216 (x := (3 : Int32)) rfl (n := 217) rfl ?_
            refine icmp_ne P at_217 (n' := 236) (n := 220) (by decide) rfl (fun hc217 => ?_) (fun hc217 => ?_)
            · -- pc 217 taken
              replace hc217 : ¬ z2.toInt = (3 : Int) := hc217
              exfalso; omega
            · -- pc 217 not taken
              replace hc217 : z2.toInt = (3 : Int) := hc217
              refine lload P at_220 rfl (n := 222) rfl ?_
              refine iload P at_222 rfl (n := 224) rfl ?_
              refine i2l P at_224 (n := 225) rfl ?_
              refine ladd P at_225 (n := 226) rfl ?_
              refine lstore P at_226 (l' := #[.val (.int p0), .val (.int p1), .val (.int p2), .val (.int p3), .val (.int p4), .val (.int p5), .val (.int z2), .val (.int z3), .val (.int j1_8), .val (.int j1_9), .val (.int j2_10), .val (.int j2_11), .val (.int (p0 &&& (2147483647 : Int32))), .val (.int ((p0 >>> ((8 : Int32) &&& 31)) &&& (7 : Int32))), .val (.int (p0 &&& (255 : Int32))), .val (.ref (if z2.toInt = 1 then xe else if z2.toInt = 2 then xk else xv)), .val (.ref (if z3.toInt = 1 then xe else if z3.toInt = 2 then xk else xv)), .val (.ref b14), .val (.ref b20), .val (.ref b26), .val (.double (own_prec (((0 : Int64) + j1_8.toInt64) + j2_10.toInt64) (((0 : Int64) + j1_9.toInt64) + j2_11.toInt64))), .second, .val (.long ((0 : Int64) + (j1_8.toInt64))), .second, .val (.long (0 : Int64)), .second, .unset, .unset]) rfl (n := 228) rfl ?_
              refine lload P at_228 rfl (n := 230) rfl ?_
              refine iload P at_230 rfl (n := 232) rfl ?_
              refine i2l P at_232 (n := 233) rfl ?_
              refine ladd P at_233 (n := 234) rfl ?_
              refine lstore P at_234 (l' := #[.val (.int p0), .val (.int p1), .val (.int p2), .val (.int p3), .val (.int p4), .val (.int p5), .val (.int z2), .val (.int z3), .val (.int j1_8), .val (.int j1_9), .val (.int j2_10), .val (.int j2_11), .val (.int (p0 &&& (2147483647 : Int32))), .val (.int ((p0 >>> ((8 : Int32) &&& 31)) &&& (7 : Int32))), .val (.int (p0 &&& (255 : Int32))), .val (.ref (if z2.toInt = 1 then xe else if z2.toInt = 2 then xk else xv)), .val (.ref (if z3.toInt = 1 then xe else if z3.toInt = 2 then xk else xv)), .val (.ref b14), .val (.ref b20), .val (.ref b26), .val (.double (own_prec (((0 : Int64) + j1_8.toInt64) + j2_10.toInt64) (((0 : Int64) + j1_9.toInt64) + j2_11.toInt64))), .second, .val (.long ((0 : Int64) + (j1_8.toInt64))), .second, .val (.long ((0 : Int64) + (j1_9.toInt64))), .second, .unset, .unset]) rfl (n := 236) rfl ?_
              refine iload P at_236 rfl (n := 238) rfl ?_
              refine if0_eq P at_238 (n' := 247) (n := 241) (by decide) rfl (fun hc238 => ?_) (fun hc238 => ?_)
              · -- pc 238 taken
                replace hc238 : z3.toInt = (0 : Int) := hc238
                refine lload P at_247 rfl (n := 249) rfl ?_
                refine iload P at_249 rfl (n := 251) rfl ?_
                refine i2l P at_251 (n := 252) rfl ?_
                refine ladd P at_252 (n := 253) rfl ?_
                refine lstore P at_253 (l' := #[.val (.int p0), .val (.int p1), .val (.int p2), .val (.int p3), .val (.int p4), .val (.int p5), .val (.int z2), .val (.int z3), .val (.int j1_8), .val (.int j1_9), .val (.int j2_10), .val (.int j2_11), .val (.int (p0 &&& (2147483647 : Int32))), .val (.int ((p0 >>> ((8 : Int32) &&& 31)) &&& (7 : Int32))), .val (.int (p0 &&& (255 : Int32))), .val (.ref (if z2.toInt = 1 then xe else if z2.toInt = 2 then xk else xv)), .val (.ref (if z3.toInt = 1 then xe else if z3.toInt = 2 then xk else xv)), .val (.ref b14), .val (.ref b20), .val (.ref b26), .val (.double (own_prec (((0 : Int64) + j1_8.toInt64) + j2_10.toInt64) (((0 : Int64) + j1_9.toInt64) + j2_11.toInt64))), .second, .val (.long (((0 : Int64) + (j1_8.toInt64)) + (j2_10.toInt64))), .second, .val (.long ((0 : Int64) + (j1_9.toInt64))), .second, .unset, .unset]) rfl (n := 255) rfl ?_
                refine lload P at_255 rfl (n := 257) rfl ?_
                refine iload P at_257 rfl (n := 259) rfl ?_
                refine i2l P at_259 (n := 260) rfl ?_
                refine ladd P at_260 (n := 261) rfl ?_
                refine lstore P at_261 (l' := #[.val (.int p0), .val (.int p1), .val (.int p2), .val (.int p3), .val (.int p4), .val (.int p5), .val (.int z2), .val (.int z3), .val (.int j1_8), .val (.int j1_9), .val (.int j2_10), .val (.int j2_11), .val (.int (p0 &&& (2147483647 : Int32))), .val (.int ((p0 >>> ((8 : Int32) &&& 31)) &&& (7 : Int32))), .val (.int (p0 &&& (255 : Int32))), .val (.ref (if z2.toInt = 1 then xe else if z2.toInt = 2 then xk else xv)), .val (.ref (if z3.toInt = 1 then xe else if z3.toInt = 2 then xk else xv)), .val (.ref b14), .val (.ref b20), .val (.ref b26), .val (.double (own_prec (((0 : Int64) + j1_8.toInt64) + j2_10.toInt64) (((0 : Int64) + j1_9.toInt64) + j2_11.toInt64))), .second, .val (.long (((0 : Int64) + (j1_8.toInt64)) + (j2_10.toInt64))), .second, .val (.long (((0 : Int64) + (j1_9.toInt64)) + (j2_11.toInt64))), .second, .unset, .unset]) rfl (n := 263) rfl ?_
                refine dconst0 P at_263 (n := 264) rfl ?_
                refine dstore P at_264 (l' := #[.val (.int p0), .val (.int p1), .val (.int p2), .val (.int p3), .val (.int p4), .val (.int p5), .val (.int z2), .val (.int z3), .val (.int j1_8), .val (.int j1_9), .val (.int j2_10), .val (.int j2_11), .val (.int (p0 &&& (2147483647 : Int32))), .val (.int ((p0 >>> ((8 : Int32) &&& 31)) &&& (7 : Int32))), .val (.int (p0 &&& (255 : Int32))), .val (.ref (if z2.toInt = 1 then xe else if z2.toInt = 2 then xk else xv)), .val (.ref (if z3.toInt = 1 then xe else if z3.toInt = 2 then xk else xv)), .val (.ref b14), .val (.ref b20), .val (.ref b26), .val (.double (own_prec (((0 : Int64) + j1_8.toInt64) + j2_10.toInt64) (((0 : Int64) + j1_9.toInt64) + j2_11.toInt64))), .second, .val (.long (((0 : Int64) + (j1_8.toInt64)) + (j2_10.toInt64))), .second, .val (.long (((0 : Int64) + (j1_9.toInt64)) + (j2_11.toInt64))), .second, .val (.double (0 : UInt64)), .second]) rfl (n := 266) rfl ?_
                refine lload P at_266 rfl (n := 268) rfl ?_
                refine lconst P at_268 (x := (0 : Int64)) rfl (n := 269) rfl ?_
                refine lcmp P at_269 (n := 270) rfl ?_
                refine ifl_le P at_270 (n' := 286) (n := 273) (by decide) rfl (fun hc270 => ?_) (fun hc270 => ?_)
                · -- pc 270 taken
                  replace hc270 : (((0 : Int64) + (j1_8.toInt64)) + (j2_10.toInt64)).toInt ≤ (0 : Int) := hc270
                  refine dload P at_286 rfl (n := 288) rfl ?_
                  refine dload P at_288 rfl (n := 290) rfl ?_
                  refine dcmp P at_290 (v := (0 : Int32)) (Jvm.RoadKit.dcmpV_eq (by unfold own_prec; rw [if_neg (by first | omega | decide)]) (own_n _ _) _) (n := 291) rfl ?_
                  refine if0_ne P at_291 (n' := 298) (n := 294) (by decide) rfl (fun hc291 => ?_) (fun hc291 => ?_)
                  · -- pc 291 taken
                    replace hc291 : ¬ (0 : Int) = (0 : Int) := hc291
                    exact absurd hc291 (by decide)
                  · -- pc 291 not taken
                    replace hc291 : (0 : Int) = (0 : Int) := hc291
                    refine iconst P at_294 (x := (1 : Int32)) rfl (n := 295) rfl ?_
                    refine goto P at_295 (n := 299) (by decide) ?_
                    refine retZ P at_299 (by decide) (by decide) (by decide) ?_
                    exact rfl
                · -- pc 270 not taken
                  replace hc270 : (0 : Int) < (((0 : Int64) + (j1_8.toInt64)) + (j2_10.toInt64)).toInt := hc270
                  refine ldc2D P at_273 (hw _ (List.mem_of_getElem? (i := 122) rfl)) (n := 276) rfl ?_
                  refine lload P at_276 rfl (n := 278) rfl ?_
                  refine l2d P at_278 (n := 279) rfl ?_
                  refine dmul P at_279 (own_n1 (((0 : Int64) + (j1_9.toInt64)) + (j2_11.toInt64))) (n := 280) rfl ?_
                  refine lload P at_280 rfl (n := 282) rfl ?_
                  refine l2d P at_282 (n := 283) rfl ?_
                  refine ddiv P at_283 (own_n2 _ _ (by omega)) (n := 284) rfl ?_
                  refine dstore P at_284 (l' := #[.val (.int p0), .val (.int p1), .val (.int p2), .val (.int p3), .val (.int p4), .val (.int p5), .val (.int z2), .val (.int z3), .val (.int j1_8), .val (.int j1_9), .val (.int j2_10), .val (.int j2_11), .val (.int (p0 &&& (2147483647 : Int32))), .val (.int ((p0 >>> ((8 : Int32) &&& 31)) &&& (7 : Int32))), .val (.int (p0 &&& (255 : Int32))), .val (.ref (if z2.toInt = 1 then xe else if z2.toInt = 2 then xk else xv)), .val (.ref (if z3.toInt = 1 then xe else if z3.toInt = 2 then xk else xv)), .val (.ref b14), .val (.ref b20), .val (.ref b26), .val (.double (own_prec (((0 : Int64) + j1_8.toInt64) + j2_10.toInt64) (((0 : Int64) + j1_9.toInt64) + j2_11.toInt64))), .second, .val (.long (((0 : Int64) + (j1_8.toInt64)) + (j2_10.toInt64))), .second, .val (.long (((0 : Int64) + (j1_9.toInt64)) + (j2_11.toInt64))), .second, .val (.double (FP.ddiv (FP.dmul (4636737291354636288 : UInt64) (FP.l2d (((0 : Int64) + (j1_9.toInt64)) + (j2_11.toInt64)))) (FP.l2d (((0 : Int64) + (j1_8.toInt64)) + (j2_10.toInt64))))), .second]) rfl (n := 286) rfl ?_
                  refine dload P at_286 rfl (n := 288) rfl ?_
                  refine dload P at_288 rfl (n := 290) rfl ?_
                  refine dcmp P at_290 (v := (0 : Int32)) (Jvm.RoadKit.dcmpV_eq (by unfold own_prec; rw [if_pos (by first | omega | decide)]) (own_n _ _) _) (n := 291) rfl ?_
                  refine if0_ne P at_291 (n' := 298) (n := 294) (by decide) rfl (fun hc291 => ?_) (fun hc291 => ?_)
                  · -- pc 291 taken
                    replace hc291 : ¬ (0 : Int) = (0 : Int) := hc291
                    exact absurd hc291 (by decide)
                  · -- pc 291 not taken
                    replace hc291 : (0 : Int) = (0 : Int) := hc291
                    refine iconst P at_294 (x := (1 : Int32)) rfl (n := 295) rfl ?_
                    refine goto P at_295 (n := 299) (by decide) ?_
                    refine retZ P at_299 (by decide) (by decide) (by decide) ?_
                    exact rfl
              · -- pc 238 not taken
                replace hc238 : ¬ z3.toInt = (0 : Int) := hc238
                refine iload P at_241 rfl (n := 243) rfl ?_
                refine iconst P at_243 (x := (3 : Int32)) rfl (n := 244) rfl ?_
                refine icmp_ne P at_244 (n' := 263) (n := 247) (by decide) rfl (fun hc244 => ?_) (fun hc244 => ?_)
                · -- pc 244 taken
                  replace hc244 : ¬ z3.toInt = (3 : Int) := hc244
                  exfalso; omega
                · -- pc 244 not taken
                  replace hc244 : z3.toInt = (3 : Int) := hc244
                  refine lload P at_247 rfl (n := 249) rfl ?_
                  refine iload P at_249 rfl (n := 251) rfl ?_
                  refine i2l P at_251 (n := 252) rfl ?_
                  refine ladd P at_252 (n := 253) rfl ?_
                  refine lstore P at_253 (l' := #[.val (.int p0), .val (.int p1), .val (.int p2), .val (.int p3), .val (.int p4), .val (.int p5), .val (.int z2), .val (.int z3), .val (.int j1_8), .val (.int j1_9), .val (.int j2_10), .val (.int j2_11), .val (.int (p0 &&& (2147483647 : Int32))), .val (.int ((p0 >>> ((8 : Int32) &&& 31)) &&& (7 : Int32))), .val (.int (p0 &&& (255 : Int32))), .val (.ref (if z2.toInt = 1 then xe else if z2.toInt = 2 then xk else xv)), .val (.ref (if z3.toInt = 1 then xe else if z3.toInt = 2 then xk else xv)), .val (.ref b14), .val (.ref b20), .val (.ref b26), .val (.double (own_prec (((0 : Int64) + j1_8.toInt64) + j2_10.toInt64) (((0 : Int64) + j1_9.toInt64) + j2_11.toInt64))), .second, .val (.long (((0 : Int64) + (j1_8.toInt64)) + (j2_10.toInt64))), .second, .val (.long ((0 : Int64) + (j1_9.toInt64))), .second, .unset, .unset]) rfl (n := 255) rfl ?_
                  refine lload P at_255 rfl (n := 257) rfl ?_
                  refine iload P at_257 rfl (n := 259) rfl ?_
                  refine i2l P at_259 (n := 260) rfl ?_
                  refine ladd P at_260 (n := 261) rfl ?_
                  refine lstore P at_261 (l' := #[.val (.int p0), .val (.int p1), .val (.int p2), .val (.int p3), .val (.int p4), .val (.int p5), .val (.int z2), .val (.int z3), .val (.int j1_8), .val (.int j1_9), .val (.int j2_10), .val (.int j2_11), .val (.int (p0 &&& (2147483647 : Int32))), .val (.int ((p0 >>> ((8 : Int32) &&& 31)) &&& (7 : Int32))), .val (.int (p0 &&& (255 : Int32))), .val (.ref (if z2.toInt = 1 then xe else if z2.toInt = 2 then xk else xv)), .val (.ref (if z3.toInt = 1 then xe else if z3.toInt = 2 then xk else xv)), .val (.ref b14), .val (.ref b20), .val (.ref b26), .val (.double (own_prec (((0 : Int64) + j1_8.toInt64) + j2_10.toInt64) (((0 : Int64) + j1_9.toInt64) + j2_11.toInt64))), .second, .val (.long (((0 : Int64) + (j1_8.toInt64)) + (j2_10.toInt64))), .second, .val (.long (((0 : Int64) + (j1_9.toInt64)) + (j2_11.toInt64))), .second, .unset, .unset]) rfl (n := 263) rfl ?_
                  refine dconst0 P at_263 (n := 264) rfl ?_
                  refine dstore P at_264 (l' := #[.val (.int p0), .val (.int p1), .val (.int p2), .val (.int p3), .val (.int p4), .val (.int p5), .val (.int z2), .val (.int z3), .val (.int j1_8), .val (.int j1_9), .val (.int j2_10), .val (.int j2_11), .val (.int (p0 &&& (2147483647 : Int32))), .val (.int ((p0 >>> ((8 : Int32) &&& 31)) &&& (7 : Int32))), .val (.int (p0 &&& (255 : Int32))), .val (.ref (if z2.toInt = 1 then xe else if z2.toInt = 2 then xk else xv)), .val (.ref (if z3.toInt = 1 then xe else if z3.toInt = 2 then xk else xv)), .val (.ref b14), .val (.ref b20), .val (.ref b26), .val (.double (own_prec (((0 : Int64) + j1_8.toInt64) + j2_10.toInt64) (((0 : Int64) + j1_9.toInt64) + j2_11.toInt64))), .second, .val (.long (((0 : Int64) + (j1_8.toInt64)) + (j2_10.toInt64))), .second, .val (.long (((0 : Int64) + (j1_9.toInt64)) + (j2_11.toInt64))), .second, .val (.double (0 : UInt64)), .second]) rfl (n := 266) rfl ?_
                  refine lload P at_266 rfl (n := 268) rfl ?_
                  refine lconst P at_268 (x := (0 : Int64)) rfl (n := 269) rfl ?_
                  refine lcmp P at_269 (n := 270) rfl ?_
                  refine ifl_le P at_270 (n' := 286) (n := 273) (by decide) rfl (fun hc270 => ?_) (fun hc270 => ?_)
                  · -- pc 270 taken
                    replace hc270 : (((0 : Int64) + (j1_8.toInt64)) + (j2_10.toInt64)).toInt ≤ (0 : Int) := hc270
                    refine dload P at_286 rfl (n := 288) rfl ?_
                    refine dload P at_288 rfl (n := 290) rfl ?_
                    refine dcmp P at_290 (v := (0 : Int32)) (Jvm.RoadKit.dcmpV_eq (by unfold own_prec; rw [if_neg (by first | omega | decide)]) (own_n _ _) _) (n := 291) rfl ?_
                    refine if0_ne P at_291 (n' := 298) (n := 294) (by decide) rfl (fun hc291 => ?_) (fun hc291 => ?_)
                    · -- pc 291 taken
                      replace hc291 : ¬ (0 : Int) = (0 : Int) := hc291
                      exact absurd hc291 (by decide)
                    · -- pc 291 not taken
                      replace hc291 : (0 : Int) = (0 : Int) := hc291
                      refine iconst P at_294 (x := (1 : Int32)) rfl (n := 295) rfl ?_
                      refine goto P at_295 (n := 299) (by decide) ?_
                      refine retZ P at_299 (by decide) (by decide) (by decide) ?_
                      exact rfl
                  · -- pc 270 not taken
                    replace hc270 : (0 : Int) < (((0 : Int64) + (j1_8.toInt64)) + (j2_10.toInt64)).toInt := hc270
                    refine ldc2D P at_273 (hw _ (List.mem_of_getElem? (i := 122) rfl)) (n := 276) rfl ?_
                    refine lload P at_276 rfl (n := 278) rfl ?_
                    refine l2d P at_278 (n := 279) rfl ?_
                    refine dmul P at_279 (own_n1 (((0 : Int64) + (j1_9.toInt64)) + (j2_11.toInt64))) (n := 280) rfl ?_
                    refine lload P at_280 rfl (n := 282) rfl ?_
                    refine l2d P at_282 (n := 283) rfl ?_
                    refine ddiv P at_283 (own_n2 _ _ (by omega)) (n := 284) rfl ?_
                    refine dstore P at_284 (l' := #[.val (.int p0), .val (.int p1), .val (.int p2), .val (.int p3), .val (.int p4), .val (.int p5), .val (.int z2), .val (.int z3), .val (.int j1_8), .val (.int j1_9), .val (.int j2_10), .val (.int j2_11), .val (.int (p0 &&& (2147483647 : Int32))), .val (.int ((p0 >>> ((8 : Int32) &&& 31)) &&& (7 : Int32))), .val (.int (p0 &&& (255 : Int32))), .val (.ref (if z2.toInt = 1 then xe else if z2.toInt = 2 then xk else xv)), .val (.ref (if z3.toInt = 1 then xe else if z3.toInt = 2 then xk else xv)), .val (.ref b14), .val (.ref b20), .val (.ref b26), .val (.double (own_prec (((0 : Int64) + j1_8.toInt64) + j2_10.toInt64) (((0 : Int64) + j1_9.toInt64) + j2_11.toInt64))), .second, .val (.long (((0 : Int64) + (j1_8.toInt64)) + (j2_10.toInt64))), .second, .val (.long (((0 : Int64) + (j1_9.toInt64)) + (j2_11.toInt64))), .second, .val (.double (FP.ddiv (FP.dmul (4636737291354636288 : UInt64) (FP.l2d (((0 : Int64) + (j1_9.toInt64)) + (j2_11.toInt64)))) (FP.l2d (((0 : Int64) + (j1_8.toInt64)) + (j2_10.toInt64))))), .second]) rfl (n := 286) rfl ?_
                    refine dload P at_286 rfl (n := 288) rfl ?_
                    refine dload P at_288 rfl (n := 290) rfl ?_
                    refine dcmp P at_290 (v := (0 : Int32)) (Jvm.RoadKit.dcmpV_eq (by unfold own_prec; rw [if_pos (by first | omega | decide)]) (own_n _ _) _) (n := 291) rfl ?_
                    refine if0_ne P at_291 (n' := 298) (n := 294) (by decide) rfl (fun hc291 => ?_) (fun hc291 => ?_)
                    · -- pc 291 taken
                      replace hc291 : ¬ (0 : Int) = (0 : Int) := hc291
                      exact absurd hc291 (by decide)
                    · -- pc 291 not taken
                      replace hc291 : (0 : Int) = (0 : Int) := hc291
                      refine iconst P at_294 (x := (1 : Int32)) rfl (n := 295) rfl ?_
                      refine goto P at_295 (n := 299) (by decide) ?_
                      refine retZ P at_299 (by decide) (by decide) (by decide) ?_
                      exact rfl
    refine iload P at_72 rfl (n := 74) rfl ?_
    refine iconst P at_74 (x := (3 : Int32)) rfl (n := 75) rfl ?_
    refine ishr P at_75 (n := 76) rfl ?_
    refine iconst P at_76 (x := (1 : Int32)) rfl (n := 77) rfl ?_
    refine iand P at_77 (n := 78) rfl ?_
    refine if0_eq P at_78 (n' := 87) (n := 81) (by decide) rfl (fun hc78 => ?_) (fun hc78 => ?_)
    · -- pc 78 taken
      replace hc78 : ((p5 >>> ((3 : Int32) &&& 31)) &&& (1 : Int32)).toInt = (0 : Int) := hc78
      exact J2 _ _
    · -- pc 78 not taken
      replace hc78 : ¬ ((p5 >>> ((3 : Int32) &&& 31)) &&& (1 : Int32)).toInt = (0 : Int) := hc78
      refine iconst P at_81 (x := (0 : Int32)) rfl (n := 82) rfl ?_
      refine istore P at_82 (l' := #[.val (.int p0), .val (.int p1), .val (.int p2), .val (.int p3), .val (.int p4), .val (.int p5), .val (.int z2), .val (.int z3), .val (.int j1_8), .val (.int j1_9), .val (.int (0 : Int32)), .val (.int ((z11 - (z11 / z13) * z13).toInt32)), .unset, .unset, .unset, .unset, .unset, .unset, .unset, .unset, .unset, .unset, .unset, .unset, .unset, .unset, .unset, .unset]) rfl (n := 84) rfl ?_
      refine iconst P at_84 (x := (0 : Int32)) rfl (n := 85) rfl ?_
      refine istore P at_85 (l' := #[.val (.int p0), .val (.int p1), .val (.int p2), .val (.int p3), .val (.int p4), .val (.int p5), .val (.int z2), .val (.int z3), .val (.int j1_8), .val (.int j1_9), .val (.int (0 : Int32)), .val (.int (0 : Int32)), .unset, .unset, .unset, .unset, .unset, .unset, .unset, .unset, .unset, .unset, .unset, .unset, .unset, .unset, .unset, .unset]) rfl (n := 87) rfl ?_
      exact J2 _ _
  refine iload P at_57 rfl (n := 59) rfl ?_
  refine iconst P at_59 (x := (2 : Int32)) rfl (n := 60) rfl ?_
  refine ishr P at_60 (n := 61) rfl ?_
  refine iconst P at_61 (x := (1 : Int32)) rfl (n := 62) rfl ?_
  refine iand P at_62 (n := 63) rfl ?_
  refine if0_eq P at_63 (n' := 72) (n := 66) (by decide) rfl (fun hc63 => ?_) (fun hc63 => ?_)
  · -- pc 63 taken
    replace hc63 : ((p5 >>> ((2 : Int32) &&& 31)) &&& (1 : Int32)).toInt = (0 : Int) := hc63
    exact J1 _ _
  · -- pc 63 not taken
    replace hc63 : ¬ ((p5 >>> ((2 : Int32) &&& 31)) &&& (1 : Int32)).toInt = (0 : Int) := hc63
    refine iconst P at_66 (x := (0 : Int32)) rfl (n := 67) rfl ?_
    refine istore P at_67 (l' := #[.val (.int p0), .val (.int p1), .val (.int p2), .val (.int p3), .val (.int p4), .val (.int p5), .val (.int z2), .val (.int z3), .val (.int (0 : Int32)), .val (.int ((z6 - (z6 / z8) * z8).toInt32)), .val (.int z9), .val (.int ((z11 - (z11 / z13) * z13).toInt32)), .unset, .unset, .unset, .unset, .unset, .unset, .unset, .unset, .unset, .unset, .unset, .unset, .unset, .unset, .unset, .unset]) rfl (n := 69) rfl ?_
    refine iconst P at_69 (x := (0 : Int32)) rfl (n := 70) rfl ?_
    refine istore P at_70 (l' := #[.val (.int p0), .val (.int p1), .val (.int p2), .val (.int p3), .val (.int p4), .val (.int p5), .val (.int z2), .val (.int z3), .val (.int (0 : Int32)), .val (.int (0 : Int32)), .val (.int z9), .val (.int ((z11 - (z11 / z13) * z13).toInt32)), .unset, .unset, .unset, .unset, .unset, .unset, .unset, .unset, .unset, .unset, .unset, .unset, .unset, .unset, .unset, .unset]) rfl (n := 72) rfl ?_
    exact J1 _ _
set_option maxRecDepth 65536 in
set_option maxHeartbeats 40000000 in
theorem comes_1 {Post : Tables → Env → Array Value → State → Outcome → State → Prop} (hpost : ∀ tb e args s v u, (limb_1_1.after args s (.returned v) u = true ∧ limb_1_2.after args s (.returned v) u = true ∧ True) → FrameEnd s (.returned v) u (Jvm.fieldLocs frame_1_writes args s ++ Jvm.arrayLocs frame_1_arrays args s ++ Jvm.staticLocs frame_1_statics s) 16 128 → Post tb e args s (.returned v) u) :
    ArmFor flags0 classFile x code maxLocals ret World_1 tables_1 room_1 Calls_1 rest_1 Pre_1 Post := by
  intro l hfl _ _ p e ha hc hk s m args below hf hA hF happ hP
  obtain ⟨hcalls, hrest, hpre⟩ := hP
  obtain ⟨-, -, -, hnamed, -, -, -, hat⟩ := (Spec.applies_iff hf).mp happ
  obtain ⟨hg, hn⟩ := and_e (Cond.before_iff.mp (show (Jvm.Cond.and given_1 narrow_1).before args s = true from hpre))
  obtain ⟨q0, g0⟩ := and_e hg
  obtain ⟨w0, w1, w2, w3, w4, w5, rfl⟩ : ∃ w0 w1 w2 w3 w4 w5 : Value, args = #[w0, w1, w2, w3, w4, w5] := by
    have hs : args.size = 6 := by simpa [Cond.value, given_1] using q0
    obtain ⟨L⟩ := args
    match L, hs with
    | [w0, w1, w2, w3, w4, w5], _ => exact ⟨w0, w1, w2, w3, w4, w5, rfl⟩
  have hw := fun d (hd : d ∈ tables_1) => atoms_spec (ws := Jvm.Cond.code x code maxLocals ret :: tables_1) hat d (List.mem_cons_of_mem _ hd)
  obtain ⟨q1, g1⟩ := and_e g0
  obtain ⟨i0, e0⟩ := is_v q1
  obtain rfl : w0 = (.int i0) := Option.some.inj e0
  obtain ⟨q2, g2⟩ := and_e g1
  obtain ⟨i1, e1⟩ := is_v q2
  obtain rfl : w1 = (.int i1) := Option.some.inj e1
  obtain ⟨q3, g3⟩ := and_e g2
  obtain ⟨i2, e2⟩ := is_v q3
  obtain rfl : w2 = (.int i2) := Option.some.inj e2
  obtain ⟨q4, g4⟩ := and_e g3
  obtain ⟨i3, e3⟩ := is_v q4
  obtain rfl : w3 = (.int i3) := Option.some.inj e3
  obtain ⟨q5, g5⟩ := and_e g4
  obtain ⟨i4, e4⟩ := is_v q5
  obtain rfl : w4 = (.int i4) := Option.some.inj e4
  have q6 := g5
  obtain ⟨i5, e5⟩ := is_v q6
  obtain rfl : w5 = (.int i5) := Option.some.inj e5
  obtain ⟨e_VALID, hn⟩ := and_e hn
  obtain ⟨e_ERROR, hn⟩ := and_e hn
  obtain ⟨o_VALID, hn⟩ := and_e hn
  obtain ⟨o_ERROR, hn⟩ := and_e hn
  obtain ⟨e_SKIPPED, hn⟩ := and_e hn
  have o_SKIPPED := hn
  obtain ⟨xv, v_VALID⟩ := exa_v e_VALID
  have S_v := Sta.start v_VALID (Or.inr ⟨(hw _ (List.mem_of_getElem? (i := 7) rfl)), (hw _ (List.mem_of_getElem? (i := 8) rfl))⟩)
  have F_VALID := ord_v v_VALID o_VALID
  obtain ⟨xe, v_ERROR⟩ := exa_v e_ERROR
  have S_e := Sta.start v_ERROR (Or.inr ⟨(hw _ (List.mem_of_getElem? (i := 7) rfl)), (hw _ (List.mem_of_getElem? (i := 61) rfl))⟩)
  have F_ERROR := ord_v v_ERROR o_ERROR
  obtain ⟨xk, v_SKIPPED⟩ := exa_v e_SKIPPED
  have S_k := Sta.start v_SKIPPED (Or.inr ⟨(hw _ (List.mem_of_getElem? (i := 7) rfl)), (hw _ (List.mem_of_getElem? (i := 63) rfl))⟩)
  have F_SKIPPED := ord_v v_SKIPPED o_SKIPPED
  have hve : xv ≠ xe := Fld.ne F_VALID F_ERROR (by decide)
  have hvk : xv ≠ xk := Fld.ne F_VALID F_SKIPPED (by decide)
  obtain ⟨n, o, h1, h2, h3, _, L, rfl, ⟨rfl, N⟩, hq⟩ := rm_law l s _ hw i0 i1 i2 i3 i4 i5 xv xe xk s.heap s.heap.size (Nat.le_refl _) S_v S_e S_k hve hvk (Old.start s) tables_1 p e ha hc hk s m _ below hf ((Spec.applies_iff_loose hf).mp happ).1 ⟨rfl, State.Warmed39.refl s, rfl⟩ trivial
  refine ⟨n, _, h1, h2, h3, hpost _ _ _ _ _ _ ⟨Cond.after_iff.mpr rfl, Cond.after_iff.mpr (eq_i res_at (Term.int_eval (1)) rfl), trivial⟩ ⟨hq.1, hq.2.1, (hq.2.2.sift fun y hy => Or.inr (N y hy)).mono (by decide) (by decide)⟩⟩
theorem main_1_1 : Claimed_1_1 := comes_1 fun _ _ _ _ _ _ h hF => ⟨h.1, hF⟩
theorem main_1_2 : Claimed_1_2 := comes_1 fun _ _ _ _ _ _ h hF => ⟨h.2.1, hF⟩
end Jvm.Pilot.@@N@@
namespace Jvm.Pilot.@@N@@
open Jvm Jvm.ClassFile Sem Op Lib Jvm.Free Jvm.Stand Jvm.Pilot.@@N@@.Jvm.D
/-! MADE BY PROGRAM (witnessworld.py) out of the Statement's table words and the real class files: 15 classes; the members and pool entries that the words name. The judged class is class 1, her method 2. -/
namespace start1
open Jvm.ClassFile
def u (s : String) : CpInfo := .utf8 (stringToUtf16 s)
/-- a pool by its gaps: so many unusable entries, then the entry; so many at the end -/
def gap : Nat → List CpInfo → List CpInfo
  | 0, r => r
  | n + 1, r => .unusable :: gap n r
def poolList (es : List (Nat × CpInfo)) (last : Nat) : List CpInfo := es.foldr (fun e r => gap e.1 (e.2 :: r)) (gap last [])
def pool (es : List (Nat × CpInfo)) (last : Nat) : Array CpInfo := ⟨poolList es last⟩
def fileOf (pool : Array CpInfo) (this : Nat) (attrs : Array Attribute := #[]) (ms : Array MethodInfo := #[]) (fl : Nat := 33) (sup : Nat := 0) (ifs : Array Nat := #[]) (fds : Array FieldInfo := #[]) : ClassFile where
  minorVersion := 0
  majorVersion := 65
  constantPool := pool
  accessFlags := fl
  thisClass := this
  superClass := sup
  interfaces := ifs
  fields := fds
  methods := ms
  attributes := attrs
def plain (name : String) (sup : Option ClassId) : Class where
  name := name
  kind := .ordinary
  loader := none
  accessFlags := 33
  super := sup
  interfaces := #[]
  cf := none
  fields := #[]
  methods := #[]
  instanceTypes := #[]
  staticTypes := #[]
  resolved := #[]
  callSites := []
  init := .initialized
  statics := none
  mirror := none

def pool0 : Array CpInfo := pool [(5, u "<init>"), (0, u "()V"), (1, .class_ 10), (1, u "java/lang/Object")] 113

def k0c0 : Code := { maxStack := 0, maxLocals := 1, code := object_method_1_code, exceptionTable := #[], attributes := #[] }
def k0m0 : Method := { name := "<init>", desc := "()V", sig := { parameters := [], returnType := none }, accessFlags := 1, code := some k0c0 }
/-- java/lang/Object -/
def k0 : Class := { plain "java/lang/Object" none with
  accessFlags := 33
  interfaces := #[]
  cf := some (fileOf pool0 8 #[] #[{ accessFlags := 1, nameIndex := 5, descriptorIndex := 6, attributes := #[] }] 33 0 #[] #[])
  fields := #[]
  methods := #[k0m0]
  instanceTypes := #[]
  staticTypes := #[]
  resolved := Array.replicate 124 none
  statics := none }

def pool1 : Array CpInfo := pool [(2, .class_ 4), (0, .nameAndType 5 6), (0, u "java/lang/Object"), (0, u "<init>"), (0, u "()V"), (0, .fieldref 8 9), (0, .class_ 10), (0, .nameAndType 11 12), (0, u "com/example/spanwise/spanwise/trees/SentenceScore$Status"), (0, u "ERROR"), (0, u "Lcom/example/spanwise/spanwise/trees/SentenceScore$Status;"), (0, .fieldref 8 14), (0, .nameAndType 15 12), (0, u "SKIPPED"), (0, .fieldref 8 17), (0, .nameAndType 18 12), (0, u "VALID"), (0, .integer 2147483647), (0, .long 2147483647), (1, .methodref 23 24), (0, .class_ 25), (0, .nameAndType 26 27), (0, u "com/example/spanwise/spanwise/trees/BracketTotalsPrecisionPinLaw"), (0, u "status"), (0, u "(I)Lcom/example/spanwise/spanwise/trees/SentenceScore$Status;"), (0, .class_ 29), (0, u "com/example/spanwise/spanwise/trees/SentenceScore"), (0, .methodref 28 31), (0, .nameAndType 5 32), (0, u "(Lcom/example/spanwise/spanwise/trees/SentenceScore$Status;IIIIIIILcom/example/spanwise/spanwise/trees/SentenceScore$Mismatch;)V"), (0, .class_ 34), (0, u "com/example/spanwise/spanwise/trees/BracketTotals"), (0, .methodref 33 3), (0, .methodref 33 37), (0, .nameAndType 38 39), (0, u "add"), (0, u "(Lcom/example/spanwise/spanwise/trees/SentenceScore;)V"), (0, .methodref 33 41), (0, .nameAndType 42 43), (0, u "precision"), (0, u "()D"), (0, .double 4636737291354636288), (4, u "law"), (0, u "(IIIIII)Z")] 7

def k1m0 : Method := { name := "<init>", desc := "()V", sig := { parameters := [], returnType := none }, accessFlags := 2, code := none }
def k1c1 : Code := { maxStack := 2, maxLocals := 1, code := method_2_code, exceptionTable := #[], attributes := #[] }
def k1m1 : Method := { name := "status", desc := "(I)Lcom/example/spanwise/spanwise/trees/SentenceScore$Status;", sig := { parameters := [.int], returnType := some (.object "com/example/spanwise/spanwise/trees/SentenceScore$Status") }, accessFlags := 10, code := some k1c1 }
def k1c2 : Code := { maxStack := 11, maxLocals := 28, code := code, exceptionTable := #[], attributes := #[] }
def k1m2 : Method := { name := "law", desc := "(IIIIII)Z", sig := { parameters := [.int, .int, .int, .int, .int, .int], returnType := some .boolean }, accessFlags := 9, code := some k1c2 }
/-- com/example/spanwise/spanwise/trees/BracketTotalsPrecisionPinLaw -/
def k1 : Class := { plain "com/example/spanwise/spanwise/trees/BracketTotalsPrecisionPinLaw" (some 0) with
  accessFlags := 49
  interfaces := #[]
  cf := some (fileOf pool1 23 #[] #[{ accessFlags := 2, nameIndex := 5, descriptorIndex := 6, attributes := #[] }, { accessFlags := 10, nameIndex := 26, descriptorIndex := 27, attributes := #[] }, { accessFlags := 9, nameIndex := 49, descriptorIndex := 50, attributes := #[] }] 49 2 #[] #[])
  fields := #[]
  methods := #[k1m0, k1m1, k1m2]
  instanceTypes := #[]
  staticTypes := #[]
  resolved := Array.replicate 58 none
  statics := none }

def pool2 : Array CpInfo := pool [(1, .class_ 2), (0, u "java/lang/constant/Constable"), (0, .class_ 4), (0, u "java/lang/Object")] 6

/-- java/lang/constant/Constable -/
def k2 : Class := { plain "java/lang/constant/Constable" (some 0) with
  accessFlags := 1537
  interfaces := #[]
  cf := some (fileOf pool2 1 #[] #[] 1537 3 #[] #[])
  fields := #[]
  methods := #[]
  instanceTypes := #[]
  staticTypes := #[]
  resolved := Array.replicate 11 none
  statics := none }

def pool3 : Array CpInfo := pool [(1, .class_ 2), (0, u "java/lang/Comparable"), (0, .class_ 4), (0, u "java/lang/Object")] 7

/-- java/lang/Comparable -/
def k3 : Class := { plain "java/lang/Comparable" (some 0) with
  accessFlags := 1537
  interfaces := #[]
  cf := some (fileOf pool3 1 #[] #[] 1537 3 #[] #[])
  fields := #[]
  methods := #[]
  instanceTypes := #[]
  staticTypes := #[]
  resolved := Array.replicate 12 none
  statics := none }

def pool4 : Array CpInfo := pool [(1, .class_ 2), (0, u "java/io/Serializable"), (0, .class_ 4), (0, u "java/lang/Object")] 2

/-- java/io/Serializable -/
def k4 : Class := { plain "java/io/Serializable" (some 0) with
  accessFlags := 1537
  interfaces := #[]
  cf := some (fileOf pool4 1 #[] #[] 1537 3 #[] #[])
  fields := #[]
  methods := #[]
  instanceTypes := #[]
  staticTypes := #[]
  resolved := Array.replicate 7 none
  statics := none }

def pool5 : Array CpInfo := pool [(2, .class_ 4), (1, u "java/lang/Enum"), (0, u "name"), (0, u "Ljava/lang/String;"), (2, u "ordinal"), (0, u "I"), (1, .class_ 14), (1, u "java/lang/Object"), (4, u "hash"), (86, .class_ 108), (1, u "java/lang/Enum$EnumDesc"), (2, .class_ 112), (0, u "java/lang/constant/Constable"), (0, .class_ 114), (0, u "java/lang/Comparable"), (0, .class_ 116), (0, u "java/io/Serializable")] 87

/-- java/lang/Enum -/
def k5 : Class := { plain "java/lang/Enum" (some 0) with
  accessFlags := 1057
  interfaces := #[2, 3, 4]
  cf := some (fileOf pool5 2 #[.nestMembers #[106]] #[] 1057 12 #[111, 113, 115] #[{ accessFlags := 18, nameIndex := 5, descriptorIndex := 6, attributes := #[] }, { accessFlags := 18, nameIndex := 9, descriptorIndex := 10, attributes := #[] }, { accessFlags := 2, nameIndex := 19, descriptorIndex := 10, attributes := #[] }])
  fields := #[{ name := "name", type := (.object "java/lang/String"), accessFlags := 18, slot := 0, constantValue := 0 }, { name := "ordinal", type := .int, accessFlags := 18, slot := 1, constantValue := 0 }, { name := "hash", type := .int, accessFlags := 2, slot := 2, constantValue := 0 }]
  methods := #[]
  instanceTypes := #[(.object "java/lang/String"), .int, .int]
  staticTypes := #[]
  resolved := Array.replicate 204 none
  statics := none }

def pool6 : Array CpInfo := pool [(1, .class_ 2), (0, u "com/example/spanwise/spanwise/trees/SentenceScore$Status"), (2, u "VALID"), (0, u "Lcom/example/spanwise/spanwise/trees/SentenceScore$Status;"), (2, u "ERROR"), (2, u "SKIPPED"), (2, u "$VALUES"), (0, u "[Lcom/example/spanwise/spanwise/trees/SentenceScore$Status;"), (6, .class_ 25), (1, u "java/lang/Enum"), (26, .class_ 53), (0, u "com/example/spanwise/spanwise/trees/SentenceScore")] 2

/-- com/example/spanwise/spanwise/trees/SentenceScore$Status -/
def k6 : Class := { plain "com/example/spanwise/spanwise/trees/SentenceScore$Status" (some 5) with
  accessFlags := 16433
  interfaces := #[]
  cf := some (fileOf pool6 1 #[.nestHost 52] #[] 16433 23 #[] #[{ accessFlags := 16409, nameIndex := 5, descriptorIndex := 6, attributes := #[] }, { accessFlags := 16409, nameIndex := 9, descriptorIndex := 6, attributes := #[] }, { accessFlags := 16409, nameIndex := 12, descriptorIndex := 6, attributes := #[] }, { accessFlags := 4122, nameIndex := 15, descriptorIndex := 16, attributes := #[] }])
  fields := #[{ name := "VALID", type := (.object "com/example/spanwise/spanwise/trees/SentenceScore$Status"), accessFlags := 16409, slot := 0, constantValue := 0 }, { name := "ERROR", type := (.object "com/example/spanwise/spanwise/trees/SentenceScore$Status"), accessFlags := 16409, slot := 1, constantValue := 0 }, { name := "SKIPPED", type := (.object "com/example/spanwise/spanwise/trees/SentenceScore$Status"), accessFlags := 16409, slot := 2, constantValue := 0 }, { name := "$VALUES", type := (.array (.object "com/example/spanwise/spanwise/trees/SentenceScore$Status")), accessFlags := 4122, slot := 3, constantValue := 0 }]
  methods := #[]
  instanceTypes := #[(.object "java/lang/String"), .int, .int]
  staticTypes := #[(.object "com/example/spanwise/spanwise/trees/SentenceScore$Status"), (.object "com/example/spanwise/spanwise/trees/SentenceScore$Status"), (.object "com/example/spanwise/spanwise/trees/SentenceScore$Status"), (.array (.object "com/example/spanwise/spanwise/trees/SentenceScore$Status"))]
  resolved := Array.replicate 56 none
  statics := some 0 }

def pool7 : Array CpInfo := pool [(1, .methodref 2 3), (0, .class_ 4), (0, .nameAndType 5 6), (0, u "java/lang/Object"), (0, u "<init>"), (0, u "()V"), (0, .class_ 8), (0, u "java/lang/Record")] 13

def k7c0 : Code := { maxStack := 1, maxLocals := 1, code := jdk_30_method_1_code, exceptionTable := #[], attributes := #[] }
def k7m0 : Method := { name := "<init>", desc := "()V", sig := { parameters := [], returnType := none }, accessFlags := 4, code := some k7c0 }
/-- java/lang/Record -/
def k7 : Class := { plain "java/lang/Record" (some 0) with
  accessFlags := 1057
  interfaces := #[]
  cf := some (fileOf pool7 7 #[] #[{ accessFlags := 4, nameIndex := 5, descriptorIndex := 6, attributes := #[] }] 1057 2 #[] #[])
  fields := #[]
  methods := #[k7m0]
  instanceTypes := #[]
  staticTypes := #[]
  resolved := Array.replicate 22 none
  statics := none }

def pool8 : Array CpInfo := pool [(1, .methodref 2 3), (0, .class_ 4), (0, .nameAndType 5 6), (0, u "java/lang/Record"), (0, u "<init>"), (0, u "()V"), (0, .fieldref 8 9), (0, .class_ 10), (0, .nameAndType 11 12), (0, u "com/example/spanwise/spanwise/trees/SentenceScore"), (0, u "status"), (0, u "Lcom/example/spanwise/spanwise/trees/SentenceScore$Status;"), (0, .fieldref 8 14), (0, .nameAndType 15 16), (0, u "length"), (0, u "I"), (0, .fieldref 8 18), (0, .nameAndType 19 16), (0, u "goldBrackets"), (0, .fieldref 8 21), (0, .nameAndType 22 16), (0, u "parsedBrackets"), (0, .fieldref 8 24), (0, .nameAndType 25 16), (0, u "matchedBrackets"), (0, .fieldref 8 27), (0, .nameAndType 28 16), (0, u "crossingBrackets"), (0, .fieldref 8 30), (0, .nameAndType 31 16), (0, u "words"), (0, .fieldref 8 33), (0, .nameAndType 34 16), (0, u "correctTags"), (0, .fieldref 8 36), (0, .nameAndType 37 38), (0, u "mismatch"), (0, u "Lcom/example/spanwise/spanwise/trees/SentenceScore$Mismatch;"), (0, .fieldref 40 41), (0, .class_ 42), (0, .nameAndType 43 12), (0, u "com/example/spanwise/spanwise/trees/SentenceScore$Status"), (0, u "VALID"), (12, u "(Lcom/example/spanwise/spanwise/trees/SentenceScore$Status;IIIIIIILcom/example/spanwise/spanwise/trees/SentenceScore$Mismatch;)V"), (3, u "isCompleteMatch"), (0, u "()Z"), (2, u "()I"), (1, u "()Lcom/example/spanwise/spanwise/trees/SentenceScore$Status;"), (4, .class_ 72), (0, u "com/example/spanwise/spanwise/trees/SentenceScore$Mismatch")] 28

def k8c0 : Code := { maxStack := 2, maxLocals := 10, code := prog_95_method_1_code, exceptionTable := #[], attributes := #[] }
def k8m0 : Method := { name := "<init>", desc := "(Lcom/example/spanwise/spanwise/trees/SentenceScore$Status;IIIIIIILcom/example/spanwise/spanwise/trees/SentenceScore$Mismatch;)V", sig := { parameters := [(.object "com/example/spanwise/spanwise/trees/SentenceScore$Status"), .int, .int, .int, .int, .int, .int, .int, (.object "com/example/spanwise/spanwise/trees/SentenceScore$Mismatch")], returnType := none }, accessFlags := 1, code := some k8c0 }
def k8c1 : Code := { maxStack := 2, maxLocals := 1, code := prog_95_method_2_code, exceptionTable := #[], attributes := #[] }
def k8m1 : Method := { name := "isCompleteMatch", desc := "()Z", sig := { parameters := [], returnType := some .boolean }, accessFlags := 1, code := some k8c1 }
def k8c2 : Code := { maxStack := 1, maxLocals := 1, code := prog_95_method_6_code, exceptionTable := #[], attributes := #[] }
def k8m2 : Method := { name := "status", desc := "()Lcom/example/spanwise/spanwise/trees/SentenceScore$Status;", sig := { parameters := [], returnType := some (.object "com/example/spanwise/spanwise/trees/SentenceScore$Status") }, accessFlags := 1, code := some k8c2 }
def k8c3 : Code := { maxStack := 1, maxLocals := 1, code := prog_95_method_8_code, exceptionTable := #[], attributes := #[] }
def k8m3 : Method := { name := "goldBrackets", desc := "()I", sig := { parameters := [], returnType := some .int }, accessFlags := 1, code := some k8c3 }
def k8c4 : Code := { maxStack := 1, maxLocals := 1, code := prog_95_method_9_code, exceptionTable := #[], attributes := #[] }
def k8m4 : Method := { name := "parsedBrackets", desc := "()I", sig := { parameters := [], returnType := some .int }, accessFlags := 1, code := some k8c4 }
def k8c5 : Code := { maxStack := 1, maxLocals := 1, code := prog_95_method_10_code, exceptionTable := #[], attributes := #[] }
def k8m5 : Method := { name := "matchedBrackets", desc := "()I", sig := { parameters := [], returnType := some .int }, accessFlags := 1, code := some k8c5 }
def k8c6 : Code := { maxStack := 1, maxLocals := 1, code := prog_95_method_11_code, exceptionTable := #[], attributes := #[] }
def k8m6 : Method := { name := "crossingBrackets", desc := "()I", sig := { parameters := [], returnType := some .int }, accessFlags := 1, code := some k8c6 }
def k8c7 : Code := { maxStack := 1, maxLocals := 1, code := prog_95_method_12_code, exceptionTable := #[], attributes := #[] }
def k8m7 : Method := { name := "words", desc := "()I", sig := { parameters := [], returnType := some .int }, accessFlags := 1, code := some k8c7 }
def k8c8 : Code := { maxStack := 1, maxLocals := 1, code := prog_95_method_13_code, exceptionTable := #[], attributes := #[] }
def k8m8 : Method := { name := "correctTags", desc := "()I", sig := { parameters := [], returnType := some .int }, accessFlags := 1, code := some k8c8 }
/-- com/example/spanwise/spanwise/trees/SentenceScore -/
def k8 : Class := { plain "com/example/spanwise/spanwise/trees/SentenceScore" (some 7) with
  accessFlags := 49
  interfaces := #[]
  cf := some (fileOf pool8 8 #[.nestMembers #[71, 40]] #[{ accessFlags := 1, nameIndex := 5, descriptorIndex := 56, attributes := #[] }, { accessFlags := 1, nameIndex := 60, descriptorIndex := 61, attributes := #[] }, { accessFlags := 1, nameIndex := 11, descriptorIndex := 66, attributes := #[] }, { accessFlags := 1, nameIndex := 19, descriptorIndex := 64, attributes := #[] }, { accessFlags := 1, nameIndex := 22, descriptorIndex := 64, attributes := #[] }, { accessFlags := 1, nameIndex := 25, descriptorIndex := 64, attributes := #[] }, { accessFlags := 1, nameIndex := 28, descriptorIndex := 64, attributes := #[] }, { accessFlags := 1, nameIndex := 31, descriptorIndex := 64, attributes := #[] }, { accessFlags := 1, nameIndex := 34, descriptorIndex := 64, attributes := #[] }] 49 2 #[] #[{ accessFlags := 18, nameIndex := 11, descriptorIndex := 12, attributes := #[] }, { accessFlags := 18, nameIndex := 15, descriptorIndex := 16, attributes := #[] }, { accessFlags := 18, nameIndex := 19, descriptorIndex := 16, attributes := #[] }, { accessFlags := 18, nameIndex := 22, descriptorIndex := 16, attributes := #[] }, { accessFlags := 18, nameIndex := 25, descriptorIndex := 16, attributes := #[] }, { accessFlags := 18, nameIndex := 28, descriptorIndex := 16, attributes := #[] }, { accessFlags := 18, nameIndex := 31, descriptorIndex := 16, attributes := #[] }, { accessFlags := 18, nameIndex := 34, descriptorIndex := 16, attributes := #[] }, { accessFlags := 18, nameIndex := 37, descriptorIndex := 38, attributes := #[] }])
  fields := #[{ name := "status", type := (.object "com/example/spanwise/spanwise/trees/SentenceScore$Status"), accessFlags := 18, slot := 0, constantValue := 0 }, { name := "length", type := .int, accessFlags := 18, slot := 1, constantValue := 0 }, { name := "goldBrackets", type := .int, accessFlags := 18, slot := 2, constantValue := 0 }, { name := "parsedBrackets", type := .int, accessFlags := 18, slot := 3, constantValue := 0 }, { name := "matchedBrackets", type := .int, accessFlags := 18, slot := 4, constantValue := 0 }, { name := "crossingBrackets", type := .int, accessFlags := 18, slot := 5, constantValue := 0 }, { name := "words", type := .int, accessFlags := 18, slot := 6, constantValue := 0 }, { name := "correctTags", type := .int, accessFlags := 18, slot := 7, constantValue := 0 }, { name := "mismatch", type := (.object "com/example/spanwise/spanwise/trees/SentenceScore$Mismatch"), accessFlags := 18, slot := 8, constantValue := 0 }]
  methods := #[k8m0, k8m1, k8m2, k8m3, k8m4, k8m5, k8m6, k8m7, k8m8]
  instanceTypes := #[(.object "com/example/spanwise/spanwise/trees/SentenceScore$Status"), .int, .int, .int, .int, .int, .int, .int, (.object "com/example/spanwise/spanwise/trees/SentenceScore$Mismatch")]
  staticTypes := #[]
  resolved := Array.replicate 101 none
  statics := none }

def pool9 : Array CpInfo := pool [(1, .methodref 2 3), (0, .class_ 4), (0, .nameAndType 5 6), (0, u "java/lang/Object"), (0, u "<init>"), (0, u "()V"), (0, .fieldref 8 9), (0, .class_ 10), (0, .nameAndType 11 12), (0, u "com/example/spanwise/spanwise/trees/BracketTotals"), (0, u "sentences"), (0, u "I"), (0, .methodref 14 15), (0, .class_ 16), (0, .nameAndType 17 18), (0, u "com/example/spanwise/spanwise/trees/SentenceScore"), (0, u "status"), (0, u "()Lcom/example/spanwise/spanwise/trees/SentenceScore$Status;"), (0, .fieldref 20 21), (0, .class_ 22), (0, .nameAndType 23 24), (0, u "com/example/spanwise/spanwise/trees/SentenceScore$Status"), (0, u "ERROR"), (0, u "Lcom/example/spanwise/spanwise/trees/SentenceScore$Status;"), (0, .fieldref 8 26), (0, .nameAndType 27 12), (0, u "errors"), (0, .fieldref 20 29), (0, .nameAndType 30 24), (0, u "SKIPPED"), (0, .fieldref 8 32), (0, .nameAndType 33 12), (0, u "skipped"), (0, .fieldref 8 35), (0, .nameAndType 36 37), (0, u "goldBrackets"), (0, u "J"), (0, .methodref 14 39), (0, .nameAndType 36 40), (0, u "()I"), (0, .fieldref 8 42), (0, .nameAndType 43 37), (0, u "parsedBrackets"), (0, .methodref 14 45), (0, .nameAndType 43 40), (0, .fieldref 8 47), (0, .nameAndType 48 37), (0, u "matchedBrackets"), (0, .methodref 14 50), (0, .nameAndType 48 40), (0, .fieldref 8 52), (0, .nameAndType 53 37), (0, u "crossingBrackets"), (0, .methodref 14 55), (0, .nameAndType 53 40), (0, .methodref 14 57), (0, .nameAndType 58 59), (0, u "isCompleteMatch"), (0, u "()Z"), (0, .fieldref 8 61), (0, .nameAndType 62 12), (0, u "completeMatches"), (0, .fieldref 8 64), (0, .nameAndType 65 12), (0, u "withoutCrossing"), (0, .fieldref 8 67), (0, .nameAndType 68 12), (0, u "withTwoOrLessCrossing"), (0, .fieldref 8 70), (0, .nameAndType 71 37), (0, u "words"), (0, .methodref 14 73), (0, .nameAndType 71 40), (0, .fieldref 8 75), (0, .nameAndType 76 37), (0, u "correctTags"), (0, .methodref 14 78), (0, .nameAndType 76 40), (0, .double 4636737291354636288), (4, u "()D"), (2, u "precision"), (11, u "add"), (0, u "(Lcom/example/spanwise/spanwise/trees/SentenceScore;)V")] 14

def k9c0 : Code := { maxStack := 1, maxLocals := 1, code := prog_90_method_1_code, exceptionTable := #[], attributes := #[] }
def k9m0 : Method := { name := "<init>", desc := "()V", sig := { parameters := [], returnType := none }, accessFlags := 0, code := some k9c0 }
def k9c1 : Code := { maxStack := 5, maxLocals := 2, code := prog_90_method_2_code, exceptionTable := #[], attributes := #[] }
def k9m1 : Method := { name := "add", desc := "(Lcom/example/spanwise/spanwise/trees/SentenceScore;)V", sig := { parameters := [(.object "com/example/spanwise/spanwise/trees/SentenceScore")], returnType := none }, accessFlags := 0, code := some k9c1 }
def k9c2 : Code := { maxStack := 4, maxLocals := 1, code := prog_90_method_8_code, exceptionTable := #[], attributes := #[] }
def k9m2 : Method := { name := "precision", desc := "()D", sig := { parameters := [], returnType := some .double }, accessFlags := 1, code := some k9c2 }
/-- com/example/spanwise/spanwise/trees/BracketTotals -/
def k9 : Class := { plain "com/example/spanwise/spanwise/trees/BracketTotals" (some 0) with
  accessFlags := 49
  interfaces := #[]
  cf := some (fileOf pool9 8 #[] #[{ accessFlags := 0, nameIndex := 5, descriptorIndex := 6, attributes := #[] }, { accessFlags := 0, nameIndex := 99, descriptorIndex := 100, attributes := #[] }, { accessFlags := 1, nameIndex := 87, descriptorIndex := 84, attributes := #[] }] 49 2 #[] #[{ accessFlags := 2, nameIndex := 11, descriptorIndex := 12, attributes := #[] }, { accessFlags := 2, nameIndex := 27, descriptorIndex := 12, attributes := #[] }, { accessFlags := 2, nameIndex := 33, descriptorIndex := 12, attributes := #[] }, { accessFlags := 2, nameIndex := 36, descriptorIndex := 37, attributes := #[] }, { accessFlags := 2, nameIndex := 43, descriptorIndex := 37, attributes := #[] }, { accessFlags := 2, nameIndex := 48, descriptorIndex := 37, attributes := #[] }, { accessFlags := 2, nameIndex := 53, descriptorIndex := 37, attributes := #[] }, { accessFlags := 2, nameIndex := 62, descriptorIndex := 12, attributes := #[] }, { accessFlags := 2, nameIndex := 65, descriptorIndex := 12, attributes := #[] }, { accessFlags := 2, nameIndex := 68, descriptorIndex := 12, attributes := #[] }, { accessFlags := 2, nameIndex := 71, descriptorIndex := 37, attributes := #[] }, { accessFlags := 2, nameIndex := 76, descriptorIndex := 37, attributes := #[] }])
  fields := #[{ name := "sentences", type := .int, accessFlags := 2, slot := 0, constantValue := 0 }, { name := "errors", type := .int, accessFlags := 2, slot := 1, constantValue := 0 }, { name := "skipped", type := .int, accessFlags := 2, slot := 2, constantValue := 0 }, { name := "goldBrackets", type := .long, accessFlags := 2, slot := 3, constantValue := 0 }, { name := "parsedBrackets", type := .long, accessFlags := 2, slot := 4, constantValue := 0 }, { name := "matchedBrackets", type := .long, accessFlags := 2, slot := 5, constantValue := 0 }, { name := "crossingBrackets", type := .long, accessFlags := 2, slot := 6, constantValue := 0 }, { name := "completeMatches", type := .int, accessFlags := 2, slot := 7, constantValue := 0 }, { name := "withoutCrossing", type := .int, accessFlags := 2, slot := 8, constantValue := 0 }, { name := "withTwoOrLessCrossing", type := .int, accessFlags := 2, slot := 9, constantValue := 0 }, { name := "words", type := .long, accessFlags := 2, slot := 10, constantValue := 0 }, { name := "correctTags", type := .long, accessFlags := 2, slot := 11, constantValue := 0 }]
  methods := #[k9m0, k9m1, k9m2]
  instanceTypes := #[.int, .int, .int, .long, .long, .long, .long, .int, .int, .int, .long, .long]
  staticTypes := #[]
  resolved := Array.replicate 115 none
  statics := none }

def pool10 : Array CpInfo := pool [(1, u "java/lang/Cloneable"), (0, .class_ 1), (0, u "java/lang/Object"), (0, .class_ 3)] 3

/-- java/lang/Cloneable -/
def k10 : Class := { plain "java/lang/Cloneable" (some 0) with
  accessFlags := 1537
  interfaces := #[]
  cf := some (fileOf pool10 2 #[] #[] 1537 4 #[] #[])
  fields := #[]
  methods := #[]
  instanceTypes := #[]
  staticTypes := #[]
  resolved := Array.replicate 8 none
  statics := none }

/-- the primitive byte -/
def k11 : Class := { plain "byte" none with kind := .primitive 'B', accessFlags := 0x411 }
/-- [B -/
def k12 : Class := { plain "[B" (some 0) with kind := .array 11 .byte, interfaces := #[10, 4], accessFlags := 1041 }

/-- the primitive int -/
def k13 : Class := { plain "int" none with kind := .primitive 'I', accessFlags := 0x411 }
/-- [I -/
def k14 : Class := { plain "[I" (some 0) with kind := .array 13 .int, interfaces := #[10, 4], accessFlags := 1041 }

def heap : Heap := #[{ cls := 6, slots := #[.ref 1, .ref 2, .ref 3, .null], vm := .statics 6 },
  { cls := 6, slots := #[.null, .int 0, .int 0], vm := .none },
  { cls := 6, slots := #[.null, .int 1, .int 0], vm := .none },
  { cls := 6, slots := #[.null, .int 2, .int 0], vm := .none }]
def classes : Array Class := #[k0, k1, k2, k3, k4, k5, k6, k7, k8, k9, k10, k11, k12, k13, k14]
def interned : List (Array UInt16 × Addr) := []
def slotsUsed : Nat := 13
def theMethod : MethodId := ⟨1, 2⟩
def args0 : Array Value := #[.int 5, .int 5, .int 5, .int 5, .int 5, .int 5]
def aboutOver (below : List Frame) : State where
  vm := { classes := classes, interned := interned.toArray }
  heap := heap
  slotsUsed := slotsUsed
  threads := #[{ frames := .invoking theMethod args0 :: below }]
def below0 : List Frame := [.native { method := ⟨0, 0⟩, args := #[] }]
def about1 : State := aboutOver below0
def p0 : Program := .bare "" "" ""
def e0 : Env := launch0.env 0 0 0
theorem w_frames : about1.frames = Frame.invoking theMethod args0 :: below0 := rfl
set_option maxRecDepth 65536 in
theorem w_args : argsFit about1.vm theMethod args0 = true := by decide +kernel
set_option maxRecDepth 65536 in
theorem w_heap : heapFits about1 = true := by decide +kernel
set_option maxRecDepth 65536 in
theorem w_runnable : about1.curStatus? = some .runnable := by decide +kernel
set_option maxRecDepth 65536 in
theorem w_alone : about1.alone = true := by decide +kernel
set_option maxRecDepth 65536 in
theorem w_named : about1.methodNamed? x = some theMethod := by decide +kernel
set_option maxRecDepth 65536 in
theorem w_hears : about1.hears theMethod below0 = true := by decide +kernel
set_option maxRecDepth 65536 in
theorem w_ripe : about1.ripe theMethod args0 below0 = true := by decide +kernel
theorem w_running : about1.status = .running := rfl
set_option maxRecDepth 65536 in
theorem w_room : about1.hasRoom e0.platform room_1 = true :=
  launch0.hasRoom_least _ room_1 (by decide +kernel) (by decide +kernel) (by decide +kernel) (by decide +kernel) (by decide +kernel) (by decide +kernel)
theorem allAtoms_all (ts : List Jvm.Cond) (a : Array Jvm.Value) (st : Jvm.State) : (allAtoms ts).before a st = ts.all (fun c => c.before a st) := by
  induction ts with
  | nil => rfl
  | cons c t ih =>
    show (Jvm.Cond.and c (allAtoms t)).before a st = _
    rw [Jvm.Cond.before_and, ih, List.all_cons]
def words1 : List Jvm.Cond := Jvm.Cond.code x code maxLocals ret :: tables_1
/-- a 'code' word, met by the world's own term for the bytes: nothing is compared byte by byte -/
theorem code_word {y : MethodName} {bytes : ByteArray} {mx : Nat} {rt : Option FieldType} {a : Array Value} {s : State} {m : MethodId} {meth : Method} {c : Code} (h1 : s.methodNamed? y = some m) (h2 : s.vm.method? m = some meth) (h3 : meth.code = some c) (h4 : c.code = bytes)
    (h5 : (c.maxLocals == mx && c.exceptionTable.isEmpty && decide (c.maxStack ≤ mostOperands) && decide (meth.sig.returnType = rt) && !meth.locks && decide (parseMethodDescriptor y.desc = some meth.sig)) = true) : (Jvm.Cond.code y bytes mx rt).before a s = true := by
  simp only [Bool.and_eq_true, beq_iff_eq, Bool.not_eq_true', decide_eq_true_eq] at h5
  obtain ⟨⟨⟨⟨⟨g1, g2⟩, g3⟩, g4⟩, g5⟩, g6⟩ := h5
  simp [Cond.before, Cond.holds, Cond.value, h1, h2, h3, h4, g1, g2, g3, g4, g5, g6]
def isCode : Jvm.Cond → Bool
  | .code _ _ _ _ => true
  | _ => false
theorem all_split {L : List Jvm.Cond} {P : Jvm.Cond → Bool} (h1 : L.all (fun c => isCode c || P c) = true) (h2 : ∀ c ∈ L.filter isCode, P c = true) : L.all P = true := by
  refine List.all_eq_true.mpr fun c hc => ?_
  have h := List.all_eq_true.mp h1 c hc
  rcases Bool.eq_false_or_eq_true (isCode c) with hi | hi
  · exact h2 c (List.mem_filter.mpr ⟨hc, hi⟩)
  · simpa [hi] using h
set_option maxRecDepth 65536 in
theorem w_c0 : (Jvm.Cond.code x code maxLocals ret).before args0 about1 = true := code_word (m := ⟨1, 2⟩) (meth := k1m2) (c := k1c2) (by decide +kernel) rfl rfl rfl (by decide +kernel)
set_option maxRecDepth 65536 in
theorem w_c1 : (Jvm.Cond.code ({ cls := "com/example/spanwise/spanwise/trees/BracketTotalsPrecisionPinLaw", name := "status", desc := "(I)Lcom/example/spanwise/spanwise/trees/SentenceScore$Status;" } : Jvm.MethodName) method_2_code (1 : Nat) (Option.some (Jvm.ClassFile.FieldType.object "com/example/spanwise/spanwise/trees/SentenceScore$Status"))).before args0 about1 = true := code_word (m := ⟨1, 1⟩) (meth := k1m1) (c := k1c1) (by decide +kernel) rfl rfl rfl (by decide +kernel)
set_option maxRecDepth 65536 in
theorem w_c2 : (Jvm.Cond.code ({ cls := "com/example/spanwise/spanwise/trees/SentenceScore", name := "<init>", desc := "(Lcom/example/spanwise/spanwise/trees/SentenceScore$Status;IIIIIIILcom/example/spanwise/spanwise/trees/SentenceScore$Mismatch;)V" } : Jvm.MethodName) prog_95_method_1_code (10 : Nat) (Option.none : Option Jvm.ClassFile.FieldType)).before args0 about1 = true := code_word (m := ⟨8, 0⟩) (meth := k8m0) (c := k8c0) (by decide +kernel) rfl rfl rfl (by decide +kernel)
set_option maxRecDepth 65536 in
theorem w_c3 : (Jvm.Cond.code ({ cls := "java/lang/Record", name := "<init>", desc := "()V" } : Jvm.MethodName) jdk_30_method_1_code (1 : Nat) (Option.none : Option Jvm.ClassFile.FieldType)).before args0 about1 = true := code_word (m := ⟨7, 0⟩) (meth := k7m0) (c := k7c0) (by decide +kernel) rfl rfl rfl (by decide +kernel)
set_option maxRecDepth 65536 in
theorem w_c4 : (Jvm.Cond.code ({ cls := "java/lang/Object", name := "<init>", desc := "()V" } : Jvm.MethodName) object_method_1_code (1 : Nat) (Option.none : Option Jvm.ClassFile.FieldType)).before args0 about1 = true := code_word (m := ⟨0, 0⟩) (meth := k0m0) (c := k0c0) (by decide +kernel) rfl rfl rfl (by decide +kernel)
set_option maxRecDepth 65536 in
theorem w_c5 : (Jvm.Cond.code ({ cls := "com/example/spanwise/spanwise/trees/BracketTotals", name := "<init>", desc := "()V" } : Jvm.MethodName) prog_90_method_1_code (1 : Nat) (Option.none : Option Jvm.ClassFile.FieldType)).before args0 about1 = true := code_word (m := ⟨9, 0⟩) (meth := k9m0) (c := k9c0) (by decide +kernel) rfl rfl rfl (by decide +kernel)
set_option maxRecDepth 65536 in
theorem w_c6 : (Jvm.Cond.code ({ cls := "com/example/spanwise/spanwise/trees/BracketTotals", name := "add", desc := "(Lcom/example/spanwise/spanwise/trees/SentenceScore;)V" } : Jvm.MethodName) prog_90_method_2_code (2 : Nat) (Option.none : Option Jvm.ClassFile.FieldType)).before args0 about1 = true := code_word (m := ⟨9, 1⟩) (meth := k9m1) (c := k9c1) (by decide +kernel) rfl rfl rfl (by decide +kernel)
set_option maxRecDepth 65536 in
theorem w_c7 : (Jvm.Cond.code ({ cls := "com/example/spanwise/spanwise/trees/SentenceScore", name := "status", desc := "()Lcom/example/spanwise/spanwise/trees/SentenceScore$Status;" } : Jvm.MethodName) prog_95_method_6_code (1 : Nat) (Option.some (Jvm.ClassFile.FieldType.object "com/example/spanwise/spanwise/trees/SentenceScore$Status"))).before args0 about1 = true := code_word (m := ⟨8, 2⟩) (meth := k8m2) (c := k8c2) (by decide +kernel) rfl rfl rfl (by decide +kernel)
set_option maxRecDepth 65536 in
theorem w_c8 : (Jvm.Cond.code ({ cls := "com/example/spanwise/spanwise/trees/SentenceScore", name := "goldBrackets", desc := "()I" } : Jvm.MethodName) prog_95_method_8_code (1 : Nat) (Option.some Jvm.ClassFile.FieldType.int)).before args0 about1 = true := code_word (m := ⟨8, 3⟩) (meth := k8m3) (c := k8c3) (by decide +kernel) rfl rfl rfl (by decide +kernel)
set_option maxRecDepth 65536 in
theorem w_c9 : (Jvm.Cond.code ({ cls := "com/example/spanwise/spanwise/trees/SentenceScore", name := "parsedBrackets", desc := "()I" } : Jvm.MethodName) prog_95_method_9_code (1 : Nat) (Option.some Jvm.ClassFile.FieldType.int)).before args0 about1 = true := code_word (m := ⟨8, 4⟩) (meth := k8m4) (c := k8c4) (by decide +kernel) rfl rfl rfl (by decide +kernel)
set_option maxRecDepth 65536 in
theorem w_c10 : (Jvm.Cond.code ({ cls := "com/example/spanwise/spanwise/trees/SentenceScore", name := "matchedBrackets", desc := "()I" } : Jvm.MethodName) prog_95_method_10_code (1 : Nat) (Option.some Jvm.ClassFile.FieldType.int)).before args0 about1 = true := code_word (m := ⟨8, 5⟩) (meth := k8m5) (c := k8c5) (by decide +kernel) rfl rfl rfl (by decide +kernel)
set_option maxRecDepth 65536 in
theorem w_c11 : (Jvm.Cond.code ({ cls := "com/example/spanwise/spanwise/trees/SentenceScore", name := "crossingBrackets", desc := "()I" } : Jvm.MethodName) prog_95_method_11_code (1 : Nat) (Option.some Jvm.ClassFile.FieldType.int)).before args0 about1 = true := code_word (m := ⟨8, 6⟩) (meth := k8m6) (c := k8c6) (by decide +kernel) rfl rfl rfl (by decide +kernel)
set_option maxRecDepth 65536 in
theorem w_c12 : (Jvm.Cond.code ({ cls := "com/example/spanwise/spanwise/trees/SentenceScore", name := "isCompleteMatch", desc := "()Z" } : Jvm.MethodName) prog_95_method_2_code (1 : Nat) (Option.some Jvm.ClassFile.FieldType.boolean)).before args0 about1 = true := code_word (m := ⟨8, 1⟩) (meth := k8m1) (c := k8c1) (by decide +kernel) rfl rfl rfl (by decide +kernel)
set_option maxRecDepth 65536 in
theorem w_c13 : (Jvm.Cond.code ({ cls := "com/example/spanwise/spanwise/trees/SentenceScore", name := "words", desc := "()I" } : Jvm.MethodName) prog_95_method_12_code (1 : Nat) (Option.some Jvm.ClassFile.FieldType.int)).before args0 about1 = true := code_word (m := ⟨8, 7⟩) (meth := k8m7) (c := k8c7) (by decide +kernel) rfl rfl rfl (by decide +kernel)
set_option maxRecDepth 65536 in
theorem w_c14 : (Jvm.Cond.code ({ cls := "com/example/spanwise/spanwise/trees/SentenceScore", name := "correctTags", desc := "()I" } : Jvm.MethodName) prog_95_method_13_code (1 : Nat) (Option.some Jvm.ClassFile.FieldType.int)).before args0 about1 = true := code_word (m := ⟨8, 8⟩) (meth := k8m8) (c := k8c8) (by decide +kernel) rfl rfl rfl (by decide +kernel)
set_option maxRecDepth 65536 in
theorem w_c15 : (Jvm.Cond.code ({ cls := "com/example/spanwise/spanwise/trees/BracketTotals", name := "precision", desc := "()D" } : Jvm.MethodName) prog_90_method_8_code (1 : Nat) (Option.some Jvm.ClassFile.FieldType.double)).before args0 about1 = true := code_word (m := ⟨9, 2⟩) (meth := k9m2) (c := k9c2) (by decide +kernel) rfl rfl rfl (by decide +kernel)
def codes1 : List Jvm.Cond := [Jvm.Cond.code x code maxLocals ret, Jvm.Cond.code ({ cls := "com/example/spanwise/spanwise/trees/BracketTotalsPrecisionPinLaw", name := "status", desc := "(I)Lcom/example/spanwise/spanwise/trees/SentenceScore$Status;" } : Jvm.MethodName) method_2_code (1 : Nat) (Option.some (Jvm.ClassFile.FieldType.object "com/example/spanwise/spanwise/trees/SentenceScore$Status")), Jvm.Cond.code ({ cls := "com/example/spanwise/spanwise/trees/SentenceScore", name := "<init>", desc := "(Lcom/example/spanwise/spanwise/trees/SentenceScore$Status;IIIIIIILcom/example/spanwise/spanwise/trees/SentenceScore$Mismatch;)V" } : Jvm.MethodName) prog_95_method_1_code (10 : Nat) (Option.none : Option Jvm.ClassFile.FieldType), Jvm.Cond.code ({ cls := "java/lang/Record", name := "<init>", desc := "()V" } : Jvm.MethodName) jdk_30_method_1_code (1 : Nat) (Option.none : Option Jvm.ClassFile.FieldType), Jvm.Cond.code ({ cls := "java/lang/Object", name := "<init>", desc := "()V" } : Jvm.MethodName) object_method_1_code (1 : Nat) (Option.none : Option Jvm.ClassFile.FieldType), Jvm.Cond.code ({ cls := "com/example/spanwise/spanwise/trees/BracketTotals", name := "<init>", desc := "()V" } : Jvm.MethodName) prog_90_method_1_code (1 : Nat) (Option.none : Option Jvm.ClassFile.FieldType), Jvm.Cond.code ({ cls := "com/example/spanwise/spanwise/trees/BracketTotals", name := "add", desc := "(Lcom/example/spanwise/spanwise/trees/SentenceScore;)V" } : Jvm.MethodName) prog_90_method_2_code (2 : Nat) (Option.none : Option Jvm.ClassFile.FieldType), Jvm.Cond.code ({ cls := "com/example/spanwise/spanwise/trees/SentenceScore", name := "status", desc := "()Lcom/example/spanwise/spanwise/trees/SentenceScore$Status;" } : Jvm.MethodName) prog_95_method_6_code (1 : Nat) (Option.some (Jvm.ClassFile.FieldType.object "com/example/spanwise/spanwise/trees/SentenceScore$Status")), Jvm.Cond.code ({ cls := "com/example/spanwise/spanwise/trees/SentenceScore", name := "goldBrackets", desc := "()I" } : Jvm.MethodName) prog_95_method_8_code (1 : Nat) (Option.some Jvm.ClassFile.FieldType.int), Jvm.Cond.code ({ cls := "com/example/spanwise/spanwise/trees/SentenceScore", name := "parsedBrackets", desc := "()I" } : Jvm.MethodName) prog_95_method_9_code (1 : Nat) (Option.some Jvm.ClassFile.FieldType.int), Jvm.Cond.code ({ cls := "com/example/spanwise/spanwise/trees/SentenceScore", name := "matchedBrackets", desc := "()I" } : Jvm.MethodName) prog_95_method_10_code (1 : Nat) (Option.some Jvm.ClassFile.FieldType.int), Jvm.Cond.code ({ cls := "com/example/spanwise/spanwise/trees/SentenceScore", name := "crossingBrackets", desc := "()I" } : Jvm.MethodName) prog_95_method_11_code (1 : Nat) (Option.some Jvm.ClassFile.FieldType.int), Jvm.Cond.code ({ cls := "com/example/spanwise/spanwise/trees/SentenceScore", name := "isCompleteMatch", desc := "()Z" } : Jvm.MethodName) prog_95_method_2_code (1 : Nat) (Option.some Jvm.ClassFile.FieldType.boolean), Jvm.Cond.code ({ cls := "com/example/spanwise/spanwise/trees/SentenceScore", name := "words", desc := "()I" } : Jvm.MethodName) prog_95_method_12_code (1 : Nat) (Option.some Jvm.ClassFile.FieldType.int), Jvm.Cond.code ({ cls := "com/example/spanwise/spanwise/trees/SentenceScore", name := "correctTags", desc := "()I" } : Jvm.MethodName) prog_95_method_13_code (1 : Nat) (Option.some Jvm.ClassFile.FieldType.int), Jvm.Cond.code ({ cls := "com/example/spanwise/spanwise/trees/BracketTotals", name := "precision", desc := "()D" } : Jvm.MethodName) prog_90_method_8_code (1 : Nat) (Option.some Jvm.ClassFile.FieldType.double)]
set_option maxRecDepth 65536 in
theorem codes_eq : words1.filter isCode = codes1 := rfl
theorem w_codes : ∀ c ∈ words1.filter isCode, c.before args0 about1 = true := by
  rw [codes_eq]
  intro c hc
  simp only [codes1, List.mem_cons, List.not_mem_nil, or_false] at hc
  rcases hc with rfl | rfl | rfl | rfl | rfl | rfl | rfl | rfl | rfl | rfl | rfl | rfl | rfl | rfl | rfl | rfl
  · exact w_c0
  · exact w_c1
  · exact w_c2
  · exact w_c3
  · exact w_c4
  · exact w_c5
  · exact w_c6
  · exact w_c7
  · exact w_c8
  · exact w_c9
  · exact w_c10
  · exact w_c11
  · exact w_c12
  · exact w_c13
  · exact w_c14
  · exact w_c15
set_option maxRecDepth 65536 in
theorem w_t1 : (words1.take 24).all (fun c => isCode c || c.before args0 about1) = true := by decide +kernel
set_option maxRecDepth 65536 in
theorem w_t2 : ((words1.drop 24).take 24).all (fun c => isCode c || c.before args0 about1) = true := by decide +kernel
set_option maxRecDepth 65536 in
theorem w_t3 : (((words1.drop 24).drop 24).take 24).all (fun c => isCode c || c.before args0 about1) = true := by decide +kernel
set_option maxRecDepth 65536 in
theorem w_t4 : ((((words1.drop 24).drop 24).drop 24).take 24).all (fun c => isCode c || c.before args0 about1) = true := by decide +kernel
set_option maxRecDepth 65536 in
theorem w_t5 : (((((words1.drop 24).drop 24).drop 24).drop 24).take 24).all (fun c => isCode c || c.before args0 about1) = true := by decide +kernel
set_option maxRecDepth 65536 in
theorem w_t6 : (((((words1.drop 24).drop 24).drop 24).drop 24).drop 24).all (fun c => isCode c || c.before args0 about1) = true := by decide +kernel
theorem w_tables : (allAtoms (Jvm.Cond.code x code maxLocals ret :: tables_1)).before args0 about1 = true := by
  rw [allAtoms_all]
  show words1.all (fun c => c.before args0 about1) = true
  refine all_split ?_ w_codes
  rw [← List.take_append_drop 24 words1, List.all_append, w_t1, ← List.take_append_drop 24 (words1.drop 24), List.all_append, w_t2, ← List.take_append_drop 24 ((words1.drop 24).drop 24), List.all_append, w_t3, ← List.take_append_drop 24 (((words1.drop 24).drop 24).drop 24), List.all_append, w_t4, ← List.take_append_drop 24 ((((words1.drop 24).drop 24).drop 24).drop 24), List.all_append, w_t5, w_t6]
  rfl
set_option maxRecDepth 65536 in
theorem w_case : (Jvm.Cond.and given_1 narrow_1).before args0 about1 = true := by decide +kernel
theorem w_applies : (headSpec (Jvm.Cond.code x code maxLocals ret :: tables_1) room_1).applies x e0.platform about1 = true :=
  (Spec.applies_iff w_frames).mpr ⟨w_running, w_runnable, w_alone, w_named, w_hears, w_ripe, w_room, w_tables⟩
theorem atStart : AtStart classFile x code maxLocals ret World_1 tables_1 room_1 Calls_1 rest_1 Pre_1 launch0 p0 e0 about1 theMethod args0 below0 :=
  ⟨lists_1, trivial, launch0.admits_env _ _ _, launch0.least_env, fairChoices_fair.cas, fairChoices_fair.clock, w_frames, w_args, w_heap, w_applies, trivial, trivial, w_case⟩
end start1
theorem witness_1 : WitnessClaimed_1 := ⟨start1.p0, start1.e0, start1.about1, start1.theMethod, start1.args0, start1.below0, start1.atStart⟩
end Jvm.Pilot.@@N@@
