import JvmDerived
import JvmDerived.Pilot.@@N@@Statement
import JvmDerived.Pilot.@@N@@Code
set_option linter.unusedVariables false
set_option linter.unusedSimpArgs false
namespace Jvm.Own
open Jvm Jvm.ClassFile Sem Op Lib Jvm.Free Jvm.Stand Jvm.LawKit Jvm.RoadKit
section Core
variable {p : Program} {l : Launch} {e : Env} {R : Room} {s : State} {m : MethodId} {args : Array Value} {below : List Frame} {meth : Method} {c : Code} {Z : State} {own nm : String} {bytes : ByteArray} {maxL : Nat} {ret : Option FieldType} {n0 : Nat} {a0 : Array Value}
  {T T' : State} {h h' : Heap} {cells slots : Nat} {Q : Option Value → Heap → Prop} {Ls : Array Slot} {st : List Value} {pc n : Nat}
/-- where a walk stands: the state T, its heap h, the cells and slots made so far; nothing below n0 written -/
def Pos (p : Program) (l : Launch) (e : Env) (R : Room) (s : State) (m : MethodId) (args : Array Value) (below : List Frame) (meth : Method) (c : Code) (Z : State) (own nm : String) (bytes : ByteArray) (maxL : Nat) (ret : Option FieldType) (n0 : Nat) (T : State) (h : Heap) (cells slots : Nat) : Prop :=
  (∃ locs, Stand p l e R s m args below meth c T locs cells slots ∧ Fr n0 locs) ∧ T.heap = h ∧ p.tables.exec = Jvm.exec ∧ c.code = bytes ∧ c.maxLocals = maxL ∧ s.vm.findClass own = some m.cls ∧ Z.Warmed39 s.vm ∧ meth.sig.returnType = ret ∧ meth.name = nm ∧ meth.locks = false ∧ n0 ≤ s.heap.size
/-- from the frame g the method comes to its end as Q says -/
def Ends (p : Program) (e : Env) (below : List Frame) (s : State) (R : Room) (n0 : Nat) (Q : Option Value → Heap → Prop) (T : State) (g : JFrame) : Prop :=
  ∃ s₂ o, Steps p.tables e below (T.setTop g) s₂ ∧ s₂.status = .running ∧ Ended s₂ below o ∧ ∃ v L, o = .returned v ∧ (Q v s₂.heap ∧ Fr n0 L) ∧ FrameEnd s o s₂ L R.cells R.slots
/-- a method's contract at given arguments and a given heap -/
def Meth (l : Launch) (Z : State) (y : MethodName) (bytes : ByteArray) (maxL : Nat) (ret : Option FieldType) (rm : Room) (as : Array Value) (h : Heap) (n0 : Nat) (Q : Option Value → Heap → Prop) : Prop :=
  ∀ ws : List Cond, MetFree l y (head1 (Cond.code y bytes maxL ret :: ws) rm) (fun a U => a = as ∧ Z.Warmed39 U.vm ∧ U.heap = h) (fun _ _ _ _ _ => True) (fun _ U o U' => ∃ v L, o = .returned v ∧ (Q v U'.heap ∧ Fr n0 L) ∧ FrameEnd U o U' L rm.cells rm.slots)
theorem Pos.stand (P : Pos p l e R s m args below meth c Z own nm bytes maxL ret n0 T h cells slots) : ∃ locs, Stand p l e R s m args below meth c T locs cells slots ∧ Fr n0 locs := P.1
theorem Pos.heap (P : Pos p l e R s m args below meth c Z own nm bytes maxL ret n0 T h cells slots) : T.heap = h := P.2.1
theorem Pos.hx (P : Pos p l e R s m args below meth c Z own nm bytes maxL ret n0 T h cells slots) : p.tables.exec = Jvm.exec := P.2.2.1
theorem Pos.code (P : Pos p l e R s m args below meth c Z own nm bytes maxL ret n0 T h cells slots) : c.code = bytes := P.2.2.2.1
theorem Pos.maxl (P : Pos p l e R s m args below meth c Z own nm bytes maxL ret n0 T h cells slots) : c.maxLocals = maxL := P.2.2.2.2.1
theorem Pos.own' (P : Pos p l e R s m args below meth c Z own nm bytes maxL ret n0 T h cells slots) : s.vm.findClass own = some m.cls := P.2.2.2.2.2.1
theorem Pos.hZ (P : Pos p l e R s m args below meth c Z own nm bytes maxL ret n0 T h cells slots) : Z.Warmed39 s.vm := P.2.2.2.2.2.2.1
theorem Pos.rets (P : Pos p l e R s m args below meth c Z own nm bytes maxL ret n0 T h cells slots) : meth.sig.returnType = ret := P.2.2.2.2.2.2.2.1
theorem Pos.name (P : Pos p l e R s m args below meth c Z own nm bytes maxL ret n0 T h cells slots) : meth.name = nm := P.2.2.2.2.2.2.2.2.1
theorem Pos.locks (P : Pos p l e R s m args below meth c Z own nm bytes maxL ret n0 T h cells slots) : meth.locks = false := P.2.2.2.2.2.2.2.2.2.1
theorem Pos.low0 (P : Pos p l e R s m args below meth c Z own nm bytes maxL ret n0 T h cells slots) : n0 ≤ s.heap.size := P.2.2.2.2.2.2.2.2.2.2
theorem Pos.low (P : Pos p l e R s m args below meth c Z own nm bytes maxL ret n0 T h cells slots) : n0 ≤ h.size := by
  obtain ⟨_, X, -⟩ := P.stand; rw [← P.heap]; exact Nat.le_trans P.low0 X.same.2.1
theorem Pos.here (P : Pos p l e R s m args below meth c Z own nm bytes maxL ret n0 T h cells slots) : At T m c below := by obtain ⟨_, X, -⟩ := P.stand; exact X.here
/-- on to another state of the same walk -/
theorem Pos.to (P : Pos p l e R s m args below meth c Z own nm bytes maxL ret n0 T h cells slots) {cells' slots' : Nat} {locs : List Loc} (X : Stand p l e R s m args below meth c T' locs cells' slots') (N : Fr n0 locs) (e' : T'.heap = h') : Pos p l e R s m args below meth c Z own nm bytes maxL ret n0 T' h' cells' slots' :=
  ⟨⟨_, X, N⟩, e', P.2.2.1, P.2.2.2.1, P.2.2.2.2.1, P.2.2.2.2.2.1, P.2.2.2.2.2.2.1, P.2.2.2.2.2.2.2.1, P.2.2.2.2.2.2.2.2.1, P.2.2.2.2.2.2.2.2.2.1, P.low0⟩
theorem Ends.via {g g' : JFrame} (E : Ends p e below s R n0 Q T' g') (k : ∀ t, Steps p.tables e below (T'.setTop g') t → Steps p.tables e below (T.setTop g) t) : Ends p e below s R n0 Q T g := by
  obtain ⟨s₂, o, h1, h2⟩ := E; exact ⟨s₂, o, k _ h1, h2⟩
theorem Ends.cast {g g' : JFrame} (q : g = g') (E : Ends p e below s R n0 Q T g') : Ends p e below s R n0 Q T g := q ▸ E
/-- a value by a name -/
theorem nameI {α : Type} {x : α} {F : α → Prop} (k : ∀ z, z = x → F z) : F x := k x rfl
theorem Meth.of {y : MethodName} {rm : Room} {as : Array Value} (hcls : plainFor y = true) (hlow : n0 ≤ h.size)
    (body : ∀ p e s m args below meth c T, Pos p l e rm s m args below meth c Z y.cls y.name bytes maxL ret n0 T h 0 0 → Ends p e below s rm n0 Q T (entryFrame m as maxL)) : Meth l Z y bytes maxL ret rm as h n0 Q := by
  intro ws
  refine MetFree.of_bodySF hcls hisR ?_
  intro p e s m args below meth c s₁ Bd hml0 hP hK
  obtain ⟨rfl, hZ, hh⟩ := hP
  have hown : s.vm.findClass y.cls = some m.cls := findClass_of_methodNamed Bd.named
  have hnm := (name_of_methodNamed Bd.named Bd.method).1
  have X0 : Stand p l e rm s m args below meth c s₁ [] 0 0 := Stand.of_body Bd
  have e0 : s₁.heap = h := by rw [← hh, Bd.state]; rfl
  exact body p e s m args below meth c s₁ ⟨⟨[], X0, Fr.nil n0⟩, e0, Bd.exec, Bd.bytes, hml0, hown, hZ, Bd.returns, hnm, Bd.notSynchronized, hh ▸ hlow⟩
/-! returns -/
theorem retV (P : Pos p l e R s m args below meth c Z own nm bytes maxL none n0 T h cells slots) (hd : decode bytes pc = .ok (.return_, 1)) (hc : cells ≤ R.cells) (hs : slots ≤ R.slots) (q : Q none h) : Ends p e below s R n0 Q T (mkF m pc Ls []) := by
  obtain ⟨locs, X, N⟩ := P.stand
  obtain ⟨fs, hr, hrun, hended, hW, hsame⟩ := X.leave (v := none) (fun _ => rfl) P.locks
  refine ⟨_, _, X.returnOut P.hx P.rets (hb P.code hd) hr, hrun, hended, _, _, rfl, ⟨?_, N⟩, ⟨_, rfl⟩, hW, hsame.mono hc hs⟩
  show Q none T.heap
  rw [P.heap]; exact q
theorem retA {w : Value} {t : FieldType} {i : Instr} (P : Pos p l e R s m args below meth c Z own nm bytes maxL (some t) n0 T h cells slots) (hd : decode bytes pc = .ok (i, 1)) (hn : narrow t w = w)
    (hi : (i = .ireturn ∧ (t = .int ∨ t = .boolean ∨ t = .byte ∨ t = .char ∨ t = .short) ∧ ∃ z, w = .int z) ∨ (i = .lreturn ∧ t = .long ∧ ∃ z, w = .long z) ∨ (i = .dreturn ∧ t = .double ∧ ∃ z, w = .double z) ∨ (i = .freturn ∧ t = .float ∧ ∃ z, w = .float z) ∨ (i = .areturn ∧ t.isReference = true ∧ w.isRef = true))
    (hc : cells ≤ R.cells) (hs : slots ≤ R.slots) (q : Q (some w) h) : Ends p e below s R n0 Q T (mkF m pc Ls (w :: st)) := by
  obtain ⟨locs, X, N⟩ := P.stand
  obtain ⟨fs, hr, hrun, hended, hW, hsame⟩ := X.leave (v := some w) (fun h => by rw [P.rets] at h; cases h) P.locks
  refine ⟨_, _, retOut X P.hx P.rets hn hi (hb P.code hd) hr, hrun, hended, _, _, rfl, ⟨?_, N⟩, ⟨_, rfl⟩, hW, hsame.mono hc hs⟩
  show Q (some w) T.heap
  rw [P.heap]; exact q
theorem retI {x : Int32} (P : Pos p l e R s m args below meth c Z own nm bytes maxL (some .int) n0 T h cells slots) (hd : decode bytes pc = .ok (.ireturn, 1)) (hc : cells ≤ R.cells) (hs : slots ≤ R.slots) (q : Q (some (.int x)) h) : Ends p e below s R n0 Q T (mkF m pc Ls (.int x :: st)) :=
  retA P hd rfl (Or.inl ⟨rfl, Or.inl rfl, _, rfl⟩) hc hs q
theorem retL {x : Int64} (P : Pos p l e R s m args below meth c Z own nm bytes maxL (some .long) n0 T h cells slots) (hd : decode bytes pc = .ok (.lreturn, 1)) (hc : cells ≤ R.cells) (hs : slots ≤ R.slots) (q : Q (some (.long x)) h) : Ends p e below s R n0 Q T (mkF m pc Ls (.long x :: st)) :=
  retA P hd rfl (Or.inr (Or.inl ⟨rfl, rfl, _, rfl⟩)) hc hs q
theorem retR {w : Value} {C : String} (P : Pos p l e R s m args below meth c Z own nm bytes maxL (some (.object C)) n0 T h cells slots) (hd : decode bytes pc = .ok (.areturn, 1)) (hw : w.isRef = true) (hc : cells ≤ R.cells) (hs : slots ≤ R.slots) (q : Q (some w) h) : Ends p e below s R n0 Q T (mkF m pc Ls (w :: st)) := by
  refine retA P hd ?_ (Or.inr (Or.inr (Or.inr (Or.inr ⟨rfl, rfl, hw⟩)))) hc hs q
  rcases ref_cases hw with rfl | ⟨z, rfl⟩ <;> rfl
/-- a boolean's return narrows to the last bit -/
theorem retZ {x : Int32} (P : Pos p l e R s m args below meth c Z own nm bytes maxL (some .boolean) n0 T h cells slots) (hd : decode bytes pc = .ok (.ireturn, 1)) (hx : x = 0 ∨ x = 1) (hc : cells ≤ R.cells) (hs : slots ≤ R.slots) (q : Q (some (.int x)) h) : Ends p e below s R n0 Q T (mkF m pc Ls (.int x :: st)) := by
  refine retA P hd ?_ (Or.inl ⟨rfl, Or.inr (Or.inl rfl), _, rfl⟩) hc hs q
  rcases hx with rfl | rfl <;> rfl
theorem retB {x : Int32} (P : Pos p l e R s m args below meth c Z own nm bytes maxL (some .byte) n0 T h cells slots) (hd : decode bytes pc = .ok (.ireturn, 1)) (hx : x.toInt8.toInt32 = x) (hc : cells ≤ R.cells) (hs : slots ≤ R.slots) (q : Q (some (.int x)) h) : Ends p e below s R n0 Q T (mkF m pc Ls (.int x :: st)) :=
  retA P hd (by show Value.int x.toInt8.toInt32 = Value.int x; rw [hx]) (Or.inl ⟨rfl, Or.inr (Or.inr (Or.inl rfl)), _, rfl⟩) hc hs q
theorem iloadN (P : Pos p l e R s m args below meth c Z own nm bytes maxL ret n0 T h cells slots) {j : Fin 4} {v : Int32} (hd : decode bytes pc = .ok (.iload_n j, 1)) (hl : Ls[j.val]? = some (.val (.int v))) (hn : n = pc + 1)
    (E : Ends p e below s R n0 Q T (mkF m n Ls (.int v :: st))) : Ends p e below s R n0 Q T (mkF m pc Ls st) := by
  subst hn; exact E.via fun t k => XS.iloadN P.here P.hx rfl (hb P.code hd) hl k
theorem iload (P : Pos p l e R s m args below meth c Z own nm bytes maxL ret n0 T h cells slots) {j : Nat} {v : Int32} (hd : decode bytes pc = .ok (.iload j, 2)) (hl : Ls[j]? = some (.val (.int v))) (hn : n = pc + 2)
    (E : Ends p e below s R n0 Q T (mkF m n Ls (.int v :: st))) : Ends p e below s R n0 Q T (mkF m pc Ls st) := by
  subst hn; exact E.via fun t k => XS.iload P.here P.hx rfl (hb P.code hd) hl k
theorem istoreN (P : Pos p l e R s m args below meth c Z own nm bytes maxL ret n0 T h cells slots) {j : Fin 4} {v : Int32} {l' : Array Slot} (hd : decode bytes pc = .ok (.istore_n j, 1)) (hl : storeLocals Ls j.val (.int v) = some l') (hn : n = pc + 1)
    (E : Ends p e below s R n0 Q T (mkF m n l' st)) : Ends p e below s R n0 Q T (mkF m pc Ls (.int v :: st)) := by
  subst hn; exact E.via fun t k => XS.istoreN P.here P.hx rfl (hb P.code hd) rfl hl k
theorem istore (P : Pos p l e R s m args below meth c Z own nm bytes maxL ret n0 T h cells slots) {j : Nat} {v : Int32} {l' : Array Slot} (hd : decode bytes pc = .ok (.istore j, 2)) (hl : storeLocals Ls j (.int v) = some l') (hn : n = pc + 2)
    (E : Ends p e below s R n0 Q T (mkF m n l' st)) : Ends p e below s R n0 Q T (mkF m pc Ls (.int v :: st)) := by
  subst hn; exact E.via fun t k => XS.istore P.here P.hx rfl (hb P.code hd) rfl hl k
theorem lloadN (P : Pos p l e R s m args below meth c Z own nm bytes maxL ret n0 T h cells slots) {j : Fin 4} {v : Int64} (hd : decode bytes pc = .ok (.lload_n j, 1)) (hl : Ls[j.val]? = some (.val (.long v))) (hn : n = pc + 1)
    (E : Ends p e below s R n0 Q T (mkF m n Ls (.long v :: st))) : Ends p e below s R n0 Q T (mkF m pc Ls st) := by
  subst hn; exact E.via fun t k => XS.lloadN P.here P.hx rfl (hb P.code hd) hl k
theorem lload (P : Pos p l e R s m args below meth c Z own nm bytes maxL ret n0 T h cells slots) {j : Nat} {v : Int64} (hd : decode bytes pc = .ok (.lload j, 2)) (hl : Ls[j]? = some (.val (.long v))) (hn : n = pc + 2)
    (E : Ends p e below s R n0 Q T (mkF m n Ls (.long v :: st))) : Ends p e below s R n0 Q T (mkF m pc Ls st) := by
  subst hn; exact E.via fun t k => XS.lload P.here P.hx rfl (hb P.code hd) hl k
theorem lstoreN (P : Pos p l e R s m args below meth c Z own nm bytes maxL ret n0 T h cells slots) {j : Fin 4} {v : Int64} {l' : Array Slot} (hd : decode bytes pc = .ok (.lstore_n j, 1)) (hl : storeLocals Ls j.val (.long v) = some l') (hn : n = pc + 1)
    (E : Ends p e below s R n0 Q T (mkF m n l' st)) : Ends p e below s R n0 Q T (mkF m pc Ls (.long v :: st)) := by
  subst hn; exact E.via fun t k => XS.lstoreN P.here P.hx rfl (hb P.code hd) rfl hl k
theorem lstore (P : Pos p l e R s m args below meth c Z own nm bytes maxL ret n0 T h cells slots) {j : Nat} {v : Int64} {l' : Array Slot} (hd : decode bytes pc = .ok (.lstore j, 2)) (hl : storeLocals Ls j (.long v) = some l') (hn : n = pc + 2)
    (E : Ends p e below s R n0 Q T (mkF m n l' st)) : Ends p e below s R n0 Q T (mkF m pc Ls (.long v :: st)) := by
  subst hn; exact E.via fun t k => XS.lstore P.here P.hx rfl (hb P.code hd) rfl hl k
theorem aloadN (P : Pos p l e R s m args below meth c Z own nm bytes maxL ret n0 T h cells slots) {j : Fin 4} {v : Value} (hd : decode bytes pc = .ok (.aload_n j, 1)) (hl : Ls[j.val]? = some (.val v)) (hv : v.isRef = true) (hn : n = pc + 1)
    (E : Ends p e below s R n0 Q T (mkF m n Ls (v :: st))) : Ends p e below s R n0 Q T (mkF m pc Ls st) := by
  subst hn; exact E.via fun t k => XS.aloadN P.here P.hx rfl (hb P.code hd) hl hv k
theorem aload (P : Pos p l e R s m args below meth c Z own nm bytes maxL ret n0 T h cells slots) {j : Nat} {v : Value} (hd : decode bytes pc = .ok (.aload j, 2)) (hl : Ls[j]? = some (.val v)) (hv : v.isRef = true) (hn : n = pc + 2)
    (E : Ends p e below s R n0 Q T (mkF m n Ls (v :: st))) : Ends p e below s R n0 Q T (mkF m pc Ls st) := by
  subst hn; exact E.via fun t k => XS.aload P.here P.hx rfl (hb P.code hd) hl hv k
theorem astoreN (P : Pos p l e R s m args below meth c Z own nm bytes maxL ret n0 T h cells slots) {j : Fin 4} {v : Value} {l' : Array Slot} (hd : decode bytes pc = .ok (.astore_n j, 1)) (hv : v.isRef = true) (hl : storeLocals Ls j.val v = some l') (hn : n = pc + 1)
    (E : Ends p e below s R n0 Q T (mkF m n l' st)) : Ends p e below s R n0 Q T (mkF m pc Ls (v :: st)) := by
  subst hn; exact E.via fun t k => XS.astoreN P.here P.hx rfl (hb P.code hd) rfl hv hl k
theorem astore (P : Pos p l e R s m args below meth c Z own nm bytes maxL ret n0 T h cells slots) {j : Nat} {v : Value} {l' : Array Slot} (hd : decode bytes pc = .ok (.astore j, 2)) (hv : v.isRef = true) (hl : storeLocals Ls j v = some l') (hn : n = pc + 2)
    (E : Ends p e below s R n0 Q T (mkF m n l' st)) : Ends p e below s R n0 Q T (mkF m pc Ls (v :: st)) := by
  subst hn; exact E.via fun t k => XS.astore P.here P.hx rfl (hb P.code hd) rfl hv hl k
theorem iconst (P : Pos p l e R s m args below meth c Z own nm bytes maxL ret n0 T h cells slots) {i : Int} (hd : decode bytes pc = .ok (.iconst i, 1)) {x : Int32} (hx : x = Int32.ofInt i) (hn : n = pc + 1)
    (E : Ends p e below s R n0 Q T (mkF m n Ls (.int x :: st))) : Ends p e below s R n0 Q T (mkF m pc Ls st) := by
  subst hn; exact E.via fun t k => XS.iconst P.here P.hx rfl (hb P.code hd) (by subst hx; exact k)
theorem bipush (P : Pos p l e R s m args below meth c Z own nm bytes maxL ret n0 T h cells slots) {i : Int} (hd : decode bytes pc = .ok (.bipush i, 2)) {x : Int32} (hx : x = (Int8.ofInt i).toInt32) (hn : n = pc + 2)
    (E : Ends p e below s R n0 Q T (mkF m n Ls (.int x :: st))) : Ends p e below s R n0 Q T (mkF m pc Ls st) := by
  subst hn; exact E.via fun t k => XS.bipush P.here P.hx rfl (hb P.code hd) (by subst hx; exact k)
theorem sipush (P : Pos p l e R s m args below meth c Z own nm bytes maxL ret n0 T h cells slots) {i : Int} (hd : decode bytes pc = .ok (.sipush i, 3)) {x : Int32} (hx : x = (Int16.ofInt i).toInt32) (hn : n = pc + 3)
    (E : Ends p e below s R n0 Q T (mkF m n Ls (.int x :: st))) : Ends p e below s R n0 Q T (mkF m pc Ls st) := by
  subst hn; exact E.via fun t k => XS.sipush P.here P.hx rfl (hb P.code hd) (by subst hx; exact k)
theorem lconst (P : Pos p l e R s m args below meth c Z own nm bytes maxL ret n0 T h cells slots) {i : Fin 2} (hd : decode bytes pc = .ok (.lconst i, 1)) {x : Int64} (hx : x = Int64.ofNat i) (hn : n = pc + 1)
    (E : Ends p e below s R n0 Q T (mkF m n Ls (.long x :: st))) : Ends p e below s R n0 Q T (mkF m pc Ls st) := by
  subst hn; exact E.via fun t k => XS.lconst P.here P.hx rfl (hb P.code hd) (by subst hx; exact k)
theorem aconstNull (P : Pos p l e R s m args below meth c Z own nm bytes maxL ret n0 T h cells slots) (hd : decode bytes pc = .ok (.aconst_null, 1)) (hn : n = pc + 1)
    (E : Ends p e below s R n0 Q T (mkF m n Ls (.null :: st))) : Ends p e below s R n0 Q T (mkF m pc Ls st) := by
  subst hn; exact E.via fun t k => XS.aconstNull P.here P.hx rfl (hb P.code hd) k
theorem iadd (P : Pos p l e R s m args below meth c Z own nm bytes maxL ret n0 T h cells slots) {x y : Int32} (hd : decode bytes pc = .ok (.iadd, 1)) (hn : n = pc + 1)
    (E : Ends p e below s R n0 Q T (mkF m n Ls (.int (x + y) :: st))) : Ends p e below s R n0 Q T (mkF m pc Ls (.int y :: .int x :: st)) := by
  subst hn; exact E.via fun t k => XS.iadd P.here P.hx rfl (hb P.code hd) rfl k
theorem isub (P : Pos p l e R s m args below meth c Z own nm bytes maxL ret n0 T h cells slots) {x y : Int32} (hd : decode bytes pc = .ok (.isub, 1)) (hn : n = pc + 1)
    (E : Ends p e below s R n0 Q T (mkF m n Ls (.int (x - y) :: st))) : Ends p e below s R n0 Q T (mkF m pc Ls (.int y :: .int x :: st)) := by
  subst hn; exact E.via fun t k => XS.isub P.here P.hx rfl (hb P.code hd) rfl k
theorem imul (P : Pos p l e R s m args below meth c Z own nm bytes maxL ret n0 T h cells slots) {x y : Int32} (hd : decode bytes pc = .ok (.imul, 1)) (hn : n = pc + 1)
    (E : Ends p e below s R n0 Q T (mkF m n Ls (.int (x * y) :: st))) : Ends p e below s R n0 Q T (mkF m pc Ls (.int y :: .int x :: st)) := by
  subst hn; exact E.via fun t k => XS.imul P.here P.hx rfl (hb P.code hd) rfl k
theorem iand (P : Pos p l e R s m args below meth c Z own nm bytes maxL ret n0 T h cells slots) {x y : Int32} (hd : decode bytes pc = .ok (.iand, 1)) (hn : n = pc + 1)
    (E : Ends p e below s R n0 Q T (mkF m n Ls (.int (x &&& y) :: st))) : Ends p e below s R n0 Q T (mkF m pc Ls (.int y :: .int x :: st)) := by
  subst hn; exact E.via fun t k => XS.iand P.here P.hx rfl (hb P.code hd) rfl k
theorem ior (P : Pos p l e R s m args below meth c Z own nm bytes maxL ret n0 T h cells slots) {x y : Int32} (hd : decode bytes pc = .ok (.ior, 1)) (hn : n = pc + 1)
    (E : Ends p e below s R n0 Q T (mkF m n Ls (.int (x ||| y) :: st))) : Ends p e below s R n0 Q T (mkF m pc Ls (.int y :: .int x :: st)) := by
  subst hn; exact E.via fun t k => XS.ior P.here P.hx rfl (hb P.code hd) rfl k
theorem ixor (P : Pos p l e R s m args below meth c Z own nm bytes maxL ret n0 T h cells slots) {x y : Int32} (hd : decode bytes pc = .ok (.ixor, 1)) (hn : n = pc + 1)
    (E : Ends p e below s R n0 Q T (mkF m n Ls (.int (x ^^^ y) :: st))) : Ends p e below s R n0 Q T (mkF m pc Ls (.int y :: .int x :: st)) := by
  subst hn; exact E.via fun t k => XS.ixor P.here P.hx rfl (hb P.code hd) rfl k
theorem ladd (P : Pos p l e R s m args below meth c Z own nm bytes maxL ret n0 T h cells slots) {x y : Int64} (hd : decode bytes pc = .ok (.ladd, 1)) (hn : n = pc + 1)
    (E : Ends p e below s R n0 Q T (mkF m n Ls (.long (x + y) :: st))) : Ends p e below s R n0 Q T (mkF m pc Ls (.long y :: .long x :: st)) := by
  subst hn; exact E.via fun t k => XS.ladd P.here P.hx rfl (hb P.code hd) rfl k
theorem lsub (P : Pos p l e R s m args below meth c Z own nm bytes maxL ret n0 T h cells slots) {x y : Int64} (hd : decode bytes pc = .ok (.lsub, 1)) (hn : n = pc + 1)
    (E : Ends p e below s R n0 Q T (mkF m n Ls (.long (x - y) :: st))) : Ends p e below s R n0 Q T (mkF m pc Ls (.long y :: .long x :: st)) := by
  subst hn; exact E.via fun t k => XS.lsub P.here P.hx rfl (hb P.code hd) rfl k
theorem lmul (P : Pos p l e R s m args below meth c Z own nm bytes maxL ret n0 T h cells slots) {x y : Int64} (hd : decode bytes pc = .ok (.lmul, 1)) (hn : n = pc + 1)
    (E : Ends p e below s R n0 Q T (mkF m n Ls (.long (x * y) :: st))) : Ends p e below s R n0 Q T (mkF m pc Ls (.long y :: .long x :: st)) := by
  subst hn; exact E.via fun t k => XS.lmul P.here P.hx rfl (hb P.code hd) rfl k
theorem land (P : Pos p l e R s m args below meth c Z own nm bytes maxL ret n0 T h cells slots) {x y : Int64} (hd : decode bytes pc = .ok (.land, 1)) (hn : n = pc + 1)
    (E : Ends p e below s R n0 Q T (mkF m n Ls (.long (x &&& y) :: st))) : Ends p e below s R n0 Q T (mkF m pc Ls (.long y :: .long x :: st)) := by
  subst hn; exact E.via fun t k => XS.land P.here P.hx rfl (hb P.code hd) rfl k
theorem lor (P : Pos p l e R s m args below meth c Z own nm bytes maxL ret n0 T h cells slots) {x y : Int64} (hd : decode bytes pc = .ok (.lor, 1)) (hn : n = pc + 1)
    (E : Ends p e below s R n0 Q T (mkF m n Ls (.long (x ||| y) :: st))) : Ends p e below s R n0 Q T (mkF m pc Ls (.long y :: .long x :: st)) := by
  subst hn; exact E.via fun t k => XS.lor P.here P.hx rfl (hb P.code hd) rfl k
theorem lxor (P : Pos p l e R s m args below meth c Z own nm bytes maxL ret n0 T h cells slots) {x y : Int64} (hd : decode bytes pc = .ok (.lxor, 1)) (hn : n = pc + 1)
    (E : Ends p e below s R n0 Q T (mkF m n Ls (.long (x ^^^ y) :: st))) : Ends p e below s R n0 Q T (mkF m pc Ls (.long y :: .long x :: st)) := by
  subst hn; exact E.via fun t k => XS.lxor P.here P.hx rfl (hb P.code hd) rfl k
theorem ishl (P : Pos p l e R s m args below meth c Z own nm bytes maxL ret n0 T h cells slots) {x y : Int32} (hd : decode bytes pc = .ok (.ishl, 1)) (hn : n = pc + 1)
    (E : Ends p e below s R n0 Q T (mkF m n Ls (.int (x <<< (y &&& 31)) :: st))) : Ends p e below s R n0 Q T (mkF m pc Ls (.int y :: .int x :: st)) := by
  subst hn; exact E.via fun t k => XS.ishl P.here P.hx rfl (hb P.code hd) rfl k
theorem ishr (P : Pos p l e R s m args below meth c Z own nm bytes maxL ret n0 T h cells slots) {x y : Int32} (hd : decode bytes pc = .ok (.ishr, 1)) (hn : n = pc + 1)
    (E : Ends p e below s R n0 Q T (mkF m n Ls (.int (x >>> (y &&& 31)) :: st))) : Ends p e below s R n0 Q T (mkF m pc Ls (.int y :: .int x :: st)) := by
  subst hn; exact E.via fun t k => XS.ishr P.here P.hx rfl (hb P.code hd) rfl k
theorem iushr (P : Pos p l e R s m args below meth c Z own nm bytes maxL ret n0 T h cells slots) {x y : Int32} (hd : decode bytes pc = .ok (.iushr, 1)) (hn : n = pc + 1)
    (E : Ends p e below s R n0 Q T (mkF m n Ls (.int ((x.toUInt32 >>> (y &&& 31).toUInt32).toInt32) :: st))) : Ends p e below s R n0 Q T (mkF m pc Ls (.int y :: .int x :: st)) := by
  subst hn; exact E.via fun t k => XS.iushr P.here P.hx rfl (hb P.code hd) rfl k
theorem lshl (P : Pos p l e R s m args below meth c Z own nm bytes maxL ret n0 T h cells slots) {x : Int64} {y : Int32} (hd : decode bytes pc = .ok (.lshl, 1)) (hn : n = pc + 1)
    (E : Ends p e below s R n0 Q T (mkF m n Ls (.long (x <<< (y &&& 0x3f).toInt64) :: st))) : Ends p e below s R n0 Q T (mkF m pc Ls (.int y :: .long x :: st)) := by
  subst hn; exact E.via fun t k => XS.lshl P.here P.hx rfl (hb P.code hd) rfl k
theorem lshr (P : Pos p l e R s m args below meth c Z own nm bytes maxL ret n0 T h cells slots) {x : Int64} {y : Int32} (hd : decode bytes pc = .ok (.lshr, 1)) (hn : n = pc + 1)
    (E : Ends p e below s R n0 Q T (mkF m n Ls (.long (x >>> (y &&& 0x3f).toInt64) :: st))) : Ends p e below s R n0 Q T (mkF m pc Ls (.int y :: .long x :: st)) := by
  subst hn; exact E.via fun t k => XS.lshr P.here P.hx rfl (hb P.code hd) rfl k
theorem lushr (P : Pos p l e R s m args below meth c Z own nm bytes maxL ret n0 T h cells slots) {x : Int64} {y : Int32} (hd : decode bytes pc = .ok (.lushr, 1)) (hn : n = pc + 1)
    (E : Ends p e below s R n0 Q T (mkF m n Ls (.long ((x.toUInt64 >>> (y &&& 0x3f).toInt64.toUInt64).toInt64) :: st))) : Ends p e below s R n0 Q T (mkF m pc Ls (.int y :: .long x :: st)) := by
  subst hn; exact E.via fun t k => XS.lushr P.here P.hx rfl (hb P.code hd) rfl k
theorem idiv (P : Pos p l e R s m args below meth c Z own nm bytes maxL ret n0 T h cells slots) {x y : Int32} (hd : decode bytes pc = .ok (.idiv, 1)) (hy : y ≠ 0) (hn : n = pc + 1)
    (E : Ends p e below s R n0 Q T (mkF m n Ls (.int (x / y) :: st))) : Ends p e below s R n0 Q T (mkF m pc Ls (.int y :: .int x :: st)) := by
  subst hn; exact E.via fun t k => XS.idiv P.here P.hx rfl (hb P.code hd) rfl hy k
theorem irem (P : Pos p l e R s m args below meth c Z own nm bytes maxL ret n0 T h cells slots) {x y : Int32} (hd : decode bytes pc = .ok (.irem, 1)) (hy : y ≠ 0) (hn : n = pc + 1)
    (E : Ends p e below s R n0 Q T (mkF m n Ls (.int (x % y) :: st))) : Ends p e below s R n0 Q T (mkF m pc Ls (.int y :: .int x :: st)) := by
  subst hn; obtain ⟨_, X, -⟩ := P.stand; exact E.via fun t k => Jvm.RoadKit.iremM X P.hx rfl (hb P.code hd) rfl hy k
theorem ldiv (P : Pos p l e R s m args below meth c Z own nm bytes maxL ret n0 T h cells slots) {x y : Int64} (hd : decode bytes pc = .ok (.ldiv, 1)) (hy : y ≠ 0) (hn : n = pc + 1)
    (E : Ends p e below s R n0 Q T (mkF m n Ls (.long (x / y) :: st))) : Ends p e below s R n0 Q T (mkF m pc Ls (.long y :: .long x :: st)) := by
  subst hn; exact E.via fun t k => XS.ldiv P.here P.hx rfl (hb P.code hd) rfl hy k
theorem lrem (P : Pos p l e R s m args below meth c Z own nm bytes maxL ret n0 T h cells slots) {x y : Int64} (hd : decode bytes pc = .ok (.lrem, 1)) (hy : y ≠ 0) (hn : n = pc + 1)
    (E : Ends p e below s R n0 Q T (mkF m n Ls (.long (x - (x / y) * y) :: st))) : Ends p e below s R n0 Q T (mkF m pc Ls (.long y :: .long x :: st)) := by
  subst hn; exact E.via fun t k => XS.lrem P.here P.hx rfl (hb P.code hd) rfl hy k
theorem ineg (P : Pos p l e R s m args below meth c Z own nm bytes maxL ret n0 T h cells slots) {x : Int32} (hd : decode bytes pc = .ok (.ineg, 1)) (hn : n = pc + 1)
    (E : Ends p e below s R n0 Q T (mkF m n Ls (.int (-x) :: st))) : Ends p e below s R n0 Q T (mkF m pc Ls (.int x :: st)) := by
  subst hn; exact E.via fun t k => XS.ineg P.here P.hx rfl (hb P.code hd) rfl k
theorem lneg (P : Pos p l e R s m args below meth c Z own nm bytes maxL ret n0 T h cells slots) {x : Int64} (hd : decode bytes pc = .ok (.lneg, 1)) (hn : n = pc + 1)
    (E : Ends p e below s R n0 Q T (mkF m n Ls (.long (-x) :: st))) : Ends p e below s R n0 Q T (mkF m pc Ls (.long x :: st)) := by
  subst hn; exact E.via fun t k => XS.lneg P.here P.hx rfl (hb P.code hd) rfl k
theorem i2l (P : Pos p l e R s m args below meth c Z own nm bytes maxL ret n0 T h cells slots) {x : Int32} (hd : decode bytes pc = .ok (.i2l, 1)) (hn : n = pc + 1)
    (E : Ends p e below s R n0 Q T (mkF m n Ls (.long (x.toInt64) :: st))) : Ends p e below s R n0 Q T (mkF m pc Ls (.int x :: st)) := by
  subst hn; exact E.via fun t k => XS.i2l P.here P.hx rfl (hb P.code hd) rfl k
theorem l2i (P : Pos p l e R s m args below meth c Z own nm bytes maxL ret n0 T h cells slots) {x : Int64} (hd : decode bytes pc = .ok (.l2i, 1)) (hn : n = pc + 1)
    (E : Ends p e below s R n0 Q T (mkF m n Ls (.int (x.toInt32) :: st))) : Ends p e below s R n0 Q T (mkF m pc Ls (.long x :: st)) := by
  subst hn; exact E.via fun t k => XS.l2i P.here P.hx rfl (hb P.code hd) rfl k
theorem i2b (P : Pos p l e R s m args below meth c Z own nm bytes maxL ret n0 T h cells slots) {x : Int32} (hd : decode bytes pc = .ok (.i2b, 1)) (hn : n = pc + 1)
    (E : Ends p e below s R n0 Q T (mkF m n Ls (.int (x.toInt8.toInt32) :: st))) : Ends p e below s R n0 Q T (mkF m pc Ls (.int x :: st)) := by
  subst hn; exact E.via fun t k => XS.i2b P.here P.hx rfl (hb P.code hd) rfl k
theorem i2s (P : Pos p l e R s m args below meth c Z own nm bytes maxL ret n0 T h cells slots) {x : Int32} (hd : decode bytes pc = .ok (.i2s, 1)) (hn : n = pc + 1)
    (E : Ends p e below s R n0 Q T (mkF m n Ls (.int (x.toInt16.toInt32) :: st))) : Ends p e below s R n0 Q T (mkF m pc Ls (.int x :: st)) := by
  subst hn; exact E.via fun t k => XS.i2s P.here P.hx rfl (hb P.code hd) rfl k
theorem i2c (P : Pos p l e R s m args below meth c Z own nm bytes maxL ret n0 T h cells slots) {x : Int32} (hd : decode bytes pc = .ok (.i2c, 1)) (hn : n = pc + 1)
    (E : Ends p e below s R n0 Q T (mkF m n Ls (.int (x.toUInt32.toUInt16.toUInt32.toInt32) :: st))) : Ends p e below s R n0 Q T (mkF m pc Ls (.int x :: st)) := by
  subst hn; exact E.via fun t k => XS.i2c P.here P.hx rfl (hb P.code hd) rfl k
theorem lcmp (P : Pos p l e R s m args below meth c Z own nm bytes maxL ret n0 T h cells slots) {x y : Int64} (hd : decode bytes pc = .ok (.lcmp, 1)) (hn : n = pc + 1)
    (E : Ends p e below s R n0 Q T (mkF m n Ls (.int (lcmpW x y) :: st))) : Ends p e below s R n0 Q T (mkF m pc Ls (.long y :: .long x :: st)) := by
  subst hn; exact E.via fun t k => XS.lcmp P.here P.hx rfl (hb P.code hd) rfl k
theorem iinc (P : Pos p l e R s m args below meth c Z own nm bytes maxL ret n0 T h cells slots) {j : Nat} {cst : Int} {x : Int32} {l' : Array Slot} (hd : decode bytes pc = .ok (.iinc j cst, 3)) {y : Int32} (hl : Ls[j]? = some (.val (.int x))) (hy : y = Int32.ofInt cst) (hl' : storeLocals Ls j (.int (x + Int32.ofInt cst)) = some l') (hn : n = pc + 3)
    (E : Ends p e below s R n0 Q T (mkF m n l' st)) : Ends p e below s R n0 Q T (mkF m pc Ls st) := by
  subst hn; exact E.via fun t k => XS.iinc P.here P.hx rfl (hb P.code hd) hl hl' k
theorem dup (P : Pos p l e R s m args below meth c Z own nm bytes maxL ret n0 T h cells slots) {x : Value} (hd : decode bytes pc = .ok (.dup, 1)) (hc : x.category = 1) (hn : n = pc + 1)
    (E : Ends p e below s R n0 Q T (mkF m n Ls (x :: x :: st))) : Ends p e below s R n0 Q T (mkF m pc Ls (x :: st)) := by
  subst hn; exact E.via fun t k => XS.dup P.here P.hx rfl (hb P.code hd) rfl hc k
theorem dupX1 (P : Pos p l e R s m args below meth c Z own nm bytes maxL ret n0 T h cells slots) {x y : Value} (hd : decode bytes pc = .ok (.dup_x1, 1)) (hc : x.category = 1) (hc' : y.category = 1) (hn : n = pc + 1)
    (E : Ends p e below s R n0 Q T (mkF m n Ls (x :: y :: x :: st))) : Ends p e below s R n0 Q T (mkF m pc Ls (x :: y :: st)) := by
  subst hn; exact E.via fun t k => XS.dupX1 P.here P.hx rfl (hb P.code hd) rfl hc hc' k
theorem popV (P : Pos p l e R s m args below meth c Z own nm bytes maxL ret n0 T h cells slots) {x : Value} (hd : decode bytes pc = .ok (.pop, 1)) (hc : x.category = 1) (hn : n = pc + 1)
    (E : Ends p e below s R n0 Q T (mkF m n Ls st)) : Ends p e below s R n0 Q T (mkF m pc Ls (x :: st)) := by
  subst hn; exact E.via fun t k => XS.pop P.here P.hx rfl (hb P.code hd) rfl hc k
theorem goto {o : Int} (P : Pos p l e R s m args below meth c Z own nm bytes maxL ret n0 T h cells slots) (hd : decode bytes pc = .ok (.goto o, 3)) (ho : 0 ≤ (pc : Int) + o ∧ ((pc : Int) + o).toNat = n) (E : Ends p e below s R n0 Q T (mkF m n Ls st)) : Ends p e below s R n0 Q T (mkF m pc Ls st) :=
  E.via fun t k => XS.goto P.here P.hx rfl (pc0 := pc) (pc' := n) rfl (hb P.code hd) ho.1 ho.2 k
theorem icmpB {cd : ClassFile.Cond} {o : Int} {x y : Int32} {n' : Nat} (P : Pos p l e R s m args below meth c Z own nm bytes maxL ret n0 T h cells slots) (hd : decode bytes pc = .ok (.if_icmp cd o, 3)) (ho : 0 ≤ (pc : Int) + o ∧ ((pc : Int) + o).toNat = n') (hn : n = pc + 3)
    (Et : if_icmp.holds cd x y = true → Ends p e below s R n0 Q T (mkF m n' Ls st)) (Ef : if_icmp.holds cd x y = false → Ends p e below s R n0 Q T (mkF m n Ls st)) : Ends p e below s R n0 Q T (mkF m pc Ls (.int y :: .int x :: st)) := by
  subst hn
  cases hq : if_icmp.holds cd x y with
  | true => exact (Et hq).via fun t k => XS.icmpYes P.here P.hx rfl (pc0 := pc) (pc' := n') rfl (hb P.code hd) rfl hq ho.1 ho.2 k
  | false => exact (Ef hq).via fun t k => XS.icmpNo P.here P.hx rfl (hb P.code hd) rfl hq k
theorem ifB {cd : ClassFile.Cond} {o : Int} {x : Int32} {n' : Nat} (P : Pos p l e R s m args below meth c Z own nm bytes maxL ret n0 T h cells slots) (hd : decode bytes pc = .ok (.ifCond cd o, 3)) (ho : 0 ≤ (pc : Int) + o ∧ ((pc : Int) + o).toNat = n') (hn : n = pc + 3)
    (Et : ifCond.holds cd x = true → Ends p e below s R n0 Q T (mkF m n' Ls st)) (Ef : ifCond.holds cd x = false → Ends p e below s R n0 Q T (mkF m n Ls st)) : Ends p e below s R n0 Q T (mkF m pc Ls (.int x :: st)) := by
  subst hn
  cases hq : ifCond.holds cd x with
  | true => exact (Et hq).via fun t k => XS.ifYes P.here P.hx rfl (pc0 := pc) (pc' := n') rfl (hb P.code hd) rfl hq ho.1 ho.2 k
  | false => exact (Ef hq).via fun t k => XS.ifNo P.here P.hx rfl (hb P.code hd) rfl hq k
theorem acmpB {cd : ACond} {o : Int} {x y : Value} {n' : Nat} (P : Pos p l e R s m args below meth c Z own nm bytes maxL ret n0 T h cells slots) (hd : decode bytes pc = .ok (.if_acmp cd o, 3)) (h1 : x.isRef = true) (h2 : y.isRef = true) (ho : 0 ≤ (pc : Int) + o ∧ ((pc : Int) + o).toNat = n') (hn : n = pc + 3)
    (Et : acV cd (decide (x = y)) = true → Ends p e below s R n0 Q T (mkF m n' Ls st)) (Ef : acV cd (decide (x = y)) = false → Ends p e below s R n0 Q T (mkF m n Ls st)) : Ends p e below s R n0 Q T (mkF m pc Ls (y :: x :: st)) := by
  subst hn
  obtain ⟨_, X, -⟩ := P.stand
  cases hq : acV cd (decide (x = y)) with
  | true => exact (Et hq).via fun t k => Jvm.RoadKit.acmp (g := mkF m pc Ls (y :: x :: st)) X P.hx rfl h1 h2 (pc0 := pc) (pc' := n') (same := decide (x = y)) rfl (hb P.code hd) rfl rfl ho.1 (by rw [hq]; simp [ho.2]) k
  | false => exact (Ef hq).via fun t k => Jvm.RoadKit.acmp (g := mkF m pc Ls (y :: x :: st)) X P.hx rfl h1 h2 (pc0 := pc) (pc' := pc + 3) (same := decide (x = y)) rfl (hb P.code hd) rfl rfl ho.1 (by rw [hq]; simp) k
/-! what the conditions say, in numbers -/
def cP (cd : ClassFile.Cond) (x y : Int) : Prop := match cd with | .eq => x = y | .ne => ¬ x = y | .lt => x < y | .ge => y ≤ x | .gt => y < x | .le => x ≤ y
theorem ii {cd : ClassFile.Cond} {x y : Int32} {b : Bool} (q : if_icmp.holds cd x y = b) : cP cd x.toInt y.toInt ↔ b = true := by
  subst q; cases cd <;> simp [cP, if_icmp.holds, Int32.lt_iff_toInt_lt, Int32.le_iff_toInt_le, Int32.toInt_inj]
theorem i0 {cd : ClassFile.Cond} {x : Int32} {b : Bool} (q : ifCond.holds cd x = b) : cP cd x.toInt 0 ↔ b = true := ii ((if0 cd x).symm.trans q)
theorem l0 {cd : ClassFile.Cond} {x y : Int64} {b : Bool} (q : ifCond.holds cd (lcmpW x y) = b) : cP cd x.toInt y.toInt ↔ b = true := by
  have h1 := i0 q
  obtain ⟨c1, c2, c3⟩ := c_lcmp x y
  rw [← h1]
  cases cd <;> simp only [cP] <;> (rcases Int.lt_trichotomy x.toInt y.toInt with g | g | g) <;> first | (have := c1 g; omega) | (have := c2 g; omega) | (have := c3 g; omega)
theorem icmp_eq {o : Int} {x y : Int32} {n' : Nat} (P : Pos p l e R s m args below meth c Z own nm bytes maxL ret n0 T h cells slots) (hd : decode bytes pc = .ok (.if_icmp .eq o, 3)) (ho : 0 ≤ (pc : Int) + o ∧ ((pc : Int) + o).toNat = n') (hn : n = pc + 3)
    (Et : x.toInt = y.toInt → Ends p e below s R n0 Q T (mkF m n' Ls st)) (Ef : ¬ x.toInt = y.toInt → Ends p e below s R n0 Q T (mkF m n Ls st)) : Ends p e below s R n0 Q T (mkF m pc Ls (.int y :: .int x :: st)) :=
  icmpB P hd ho hn (fun q => Et (by have := ii q; simp only [cP, iff_true] at this; exact this)) (fun q => Ef (by have := ii q; simp only [cP, Bool.false_eq_true, iff_false] at this; omega))
theorem if0_eq {o : Int} {x : Int32} {n' : Nat} (P : Pos p l e R s m args below meth c Z own nm bytes maxL ret n0 T h cells slots) (hd : decode bytes pc = .ok (.ifCond .eq o, 3)) (ho : 0 ≤ (pc : Int) + o ∧ ((pc : Int) + o).toNat = n') (hn : n = pc + 3)
    (Et : x.toInt = 0 → Ends p e below s R n0 Q T (mkF m n' Ls st)) (Ef : ¬ x.toInt = 0 → Ends p e below s R n0 Q T (mkF m n Ls st)) : Ends p e below s R n0 Q T (mkF m pc Ls (.int x :: st)) :=
  ifB P hd ho hn (fun q => Et (by have := i0 q; simp only [cP, iff_true] at this; exact this)) (fun q => Ef (by have := i0 q; simp only [cP, Bool.false_eq_true, iff_false] at this; omega))
theorem ifl_eq {o : Int} {x y : Int64} {n' : Nat} (P : Pos p l e R s m args below meth c Z own nm bytes maxL ret n0 T h cells slots) (hd : decode bytes pc = .ok (.ifCond .eq o, 3)) (ho : 0 ≤ (pc : Int) + o ∧ ((pc : Int) + o).toNat = n') (hn : n = pc + 3)
    (Et : x.toInt = y.toInt → Ends p e below s R n0 Q T (mkF m n' Ls st)) (Ef : ¬ x.toInt = y.toInt → Ends p e below s R n0 Q T (mkF m n Ls st)) : Ends p e below s R n0 Q T (mkF m pc Ls (.int (lcmpW x y) :: st)) :=
  ifB P hd ho hn (fun q => Et (by have := l0 q; simp only [cP, iff_true] at this; exact this)) (fun q => Ef (by have := l0 q; simp only [cP, Bool.false_eq_true, iff_false] at this; omega))
theorem icmp_ne {o : Int} {x y : Int32} {n' : Nat} (P : Pos p l e R s m args below meth c Z own nm bytes maxL ret n0 T h cells slots) (hd : decode bytes pc = .ok (.if_icmp .ne o, 3)) (ho : 0 ≤ (pc : Int) + o ∧ ((pc : Int) + o).toNat = n') (hn : n = pc + 3)
    (Et : ¬ x.toInt = y.toInt → Ends p e below s R n0 Q T (mkF m n' Ls st)) (Ef : x.toInt = y.toInt → Ends p e below s R n0 Q T (mkF m n Ls st)) : Ends p e below s R n0 Q T (mkF m pc Ls (.int y :: .int x :: st)) :=
  icmpB P hd ho hn (fun q => Et (by have := ii q; simp only [cP, iff_true] at this; exact this)) (fun q => Ef (by have := ii q; simp only [cP, Bool.false_eq_true, iff_false] at this; omega))
theorem if0_ne {o : Int} {x : Int32} {n' : Nat} (P : Pos p l e R s m args below meth c Z own nm bytes maxL ret n0 T h cells slots) (hd : decode bytes pc = .ok (.ifCond .ne o, 3)) (ho : 0 ≤ (pc : Int) + o ∧ ((pc : Int) + o).toNat = n') (hn : n = pc + 3)
    (Et : ¬ x.toInt = 0 → Ends p e below s R n0 Q T (mkF m n' Ls st)) (Ef : x.toInt = 0 → Ends p e below s R n0 Q T (mkF m n Ls st)) : Ends p e below s R n0 Q T (mkF m pc Ls (.int x :: st)) :=
  ifB P hd ho hn (fun q => Et (by have := i0 q; simp only [cP, iff_true] at this; exact this)) (fun q => Ef (by have := i0 q; simp only [cP, Bool.false_eq_true, iff_false] at this; omega))
theorem ifl_ne {o : Int} {x y : Int64} {n' : Nat} (P : Pos p l e R s m args below meth c Z own nm bytes maxL ret n0 T h cells slots) (hd : decode bytes pc = .ok (.ifCond .ne o, 3)) (ho : 0 ≤ (pc : Int) + o ∧ ((pc : Int) + o).toNat = n') (hn : n = pc + 3)
    (Et : ¬ x.toInt = y.toInt → Ends p e below s R n0 Q T (mkF m n' Ls st)) (Ef : x.toInt = y.toInt → Ends p e below s R n0 Q T (mkF m n Ls st)) : Ends p e below s R n0 Q T (mkF m pc Ls (.int (lcmpW x y) :: st)) :=
  ifB P hd ho hn (fun q => Et (by have := l0 q; simp only [cP, iff_true] at this; exact this)) (fun q => Ef (by have := l0 q; simp only [cP, Bool.false_eq_true, iff_false] at this; omega))
theorem icmp_lt {o : Int} {x y : Int32} {n' : Nat} (P : Pos p l e R s m args below meth c Z own nm bytes maxL ret n0 T h cells slots) (hd : decode bytes pc = .ok (.if_icmp .lt o, 3)) (ho : 0 ≤ (pc : Int) + o ∧ ((pc : Int) + o).toNat = n') (hn : n = pc + 3)
    (Et : x.toInt < y.toInt → Ends p e below s R n0 Q T (mkF m n' Ls st)) (Ef : y.toInt ≤ x.toInt → Ends p e below s R n0 Q T (mkF m n Ls st)) : Ends p e below s R n0 Q T (mkF m pc Ls (.int y :: .int x :: st)) :=
  icmpB P hd ho hn (fun q => Et (by have := ii q; simp only [cP, iff_true] at this; exact this)) (fun q => Ef (by have := ii q; simp only [cP, Bool.false_eq_true, iff_false] at this; omega))
theorem if0_lt {o : Int} {x : Int32} {n' : Nat} (P : Pos p l e R s m args below meth c Z own nm bytes maxL ret n0 T h cells slots) (hd : decode bytes pc = .ok (.ifCond .lt o, 3)) (ho : 0 ≤ (pc : Int) + o ∧ ((pc : Int) + o).toNat = n') (hn : n = pc + 3)
    (Et : x.toInt < 0 → Ends p e below s R n0 Q T (mkF m n' Ls st)) (Ef : 0 ≤ x.toInt → Ends p e below s R n0 Q T (mkF m n Ls st)) : Ends p e below s R n0 Q T (mkF m pc Ls (.int x :: st)) :=
  ifB P hd ho hn (fun q => Et (by have := i0 q; simp only [cP, iff_true] at this; exact this)) (fun q => Ef (by have := i0 q; simp only [cP, Bool.false_eq_true, iff_false] at this; omega))
theorem ifl_lt {o : Int} {x y : Int64} {n' : Nat} (P : Pos p l e R s m args below meth c Z own nm bytes maxL ret n0 T h cells slots) (hd : decode bytes pc = .ok (.ifCond .lt o, 3)) (ho : 0 ≤ (pc : Int) + o ∧ ((pc : Int) + o).toNat = n') (hn : n = pc + 3)
    (Et : x.toInt < y.toInt → Ends p e below s R n0 Q T (mkF m n' Ls st)) (Ef : y.toInt ≤ x.toInt → Ends p e below s R n0 Q T (mkF m n Ls st)) : Ends p e below s R n0 Q T (mkF m pc Ls (.int (lcmpW x y) :: st)) :=
  ifB P hd ho hn (fun q => Et (by have := l0 q; simp only [cP, iff_true] at this; exact this)) (fun q => Ef (by have := l0 q; simp only [cP, Bool.false_eq_true, iff_false] at this; omega))
theorem icmp_ge {o : Int} {x y : Int32} {n' : Nat} (P : Pos p l e R s m args below meth c Z own nm bytes maxL ret n0 T h cells slots) (hd : decode bytes pc = .ok (.if_icmp .ge o, 3)) (ho : 0 ≤ (pc : Int) + o ∧ ((pc : Int) + o).toNat = n') (hn : n = pc + 3)
    (Et : y.toInt ≤ x.toInt → Ends p e below s R n0 Q T (mkF m n' Ls st)) (Ef : x.toInt < y.toInt → Ends p e below s R n0 Q T (mkF m n Ls st)) : Ends p e below s R n0 Q T (mkF m pc Ls (.int y :: .int x :: st)) :=
  icmpB P hd ho hn (fun q => Et (by have := ii q; simp only [cP, iff_true] at this; exact this)) (fun q => Ef (by have := ii q; simp only [cP, Bool.false_eq_true, iff_false] at this; omega))
theorem if0_ge {o : Int} {x : Int32} {n' : Nat} (P : Pos p l e R s m args below meth c Z own nm bytes maxL ret n0 T h cells slots) (hd : decode bytes pc = .ok (.ifCond .ge o, 3)) (ho : 0 ≤ (pc : Int) + o ∧ ((pc : Int) + o).toNat = n') (hn : n = pc + 3)
    (Et : 0 ≤ x.toInt → Ends p e below s R n0 Q T (mkF m n' Ls st)) (Ef : x.toInt < 0 → Ends p e below s R n0 Q T (mkF m n Ls st)) : Ends p e below s R n0 Q T (mkF m pc Ls (.int x :: st)) :=
  ifB P hd ho hn (fun q => Et (by have := i0 q; simp only [cP, iff_true] at this; exact this)) (fun q => Ef (by have := i0 q; simp only [cP, Bool.false_eq_true, iff_false] at this; omega))
theorem ifl_ge {o : Int} {x y : Int64} {n' : Nat} (P : Pos p l e R s m args below meth c Z own nm bytes maxL ret n0 T h cells slots) (hd : decode bytes pc = .ok (.ifCond .ge o, 3)) (ho : 0 ≤ (pc : Int) + o ∧ ((pc : Int) + o).toNat = n') (hn : n = pc + 3)
    (Et : y.toInt ≤ x.toInt → Ends p e below s R n0 Q T (mkF m n' Ls st)) (Ef : x.toInt < y.toInt → Ends p e below s R n0 Q T (mkF m n Ls st)) : Ends p e below s R n0 Q T (mkF m pc Ls (.int (lcmpW x y) :: st)) :=
  ifB P hd ho hn (fun q => Et (by have := l0 q; simp only [cP, iff_true] at this; exact this)) (fun q => Ef (by have := l0 q; simp only [cP, Bool.false_eq_true, iff_false] at this; omega))
theorem icmp_gt {o : Int} {x y : Int32} {n' : Nat} (P : Pos p l e R s m args below meth c Z own nm bytes maxL ret n0 T h cells slots) (hd : decode bytes pc = .ok (.if_icmp .gt o, 3)) (ho : 0 ≤ (pc : Int) + o ∧ ((pc : Int) + o).toNat = n') (hn : n = pc + 3)
    (Et : y.toInt < x.toInt → Ends p e below s R n0 Q T (mkF m n' Ls st)) (Ef : x.toInt ≤ y.toInt → Ends p e below s R n0 Q T (mkF m n Ls st)) : Ends p e below s R n0 Q T (mkF m pc Ls (.int y :: .int x :: st)) :=
  icmpB P hd ho hn (fun q => Et (by have := ii q; simp only [cP, iff_true] at this; exact this)) (fun q => Ef (by have := ii q; simp only [cP, Bool.false_eq_true, iff_false] at this; omega))
theorem if0_gt {o : Int} {x : Int32} {n' : Nat} (P : Pos p l e R s m args below meth c Z own nm bytes maxL ret n0 T h cells slots) (hd : decode bytes pc = .ok (.ifCond .gt o, 3)) (ho : 0 ≤ (pc : Int) + o ∧ ((pc : Int) + o).toNat = n') (hn : n = pc + 3)
    (Et : 0 < x.toInt → Ends p e below s R n0 Q T (mkF m n' Ls st)) (Ef : x.toInt ≤ 0 → Ends p e below s R n0 Q T (mkF m n Ls st)) : Ends p e below s R n0 Q T (mkF m pc Ls (.int x :: st)) :=
  ifB P hd ho hn (fun q => Et (by have := i0 q; simp only [cP, iff_true] at this; exact this)) (fun q => Ef (by have := i0 q; simp only [cP, Bool.false_eq_true, iff_false] at this; omega))
theorem ifl_gt {o : Int} {x y : Int64} {n' : Nat} (P : Pos p l e R s m args below meth c Z own nm bytes maxL ret n0 T h cells slots) (hd : decode bytes pc = .ok (.ifCond .gt o, 3)) (ho : 0 ≤ (pc : Int) + o ∧ ((pc : Int) + o).toNat = n') (hn : n = pc + 3)
    (Et : y.toInt < x.toInt → Ends p e below s R n0 Q T (mkF m n' Ls st)) (Ef : x.toInt ≤ y.toInt → Ends p e below s R n0 Q T (mkF m n Ls st)) : Ends p e below s R n0 Q T (mkF m pc Ls (.int (lcmpW x y) :: st)) :=
  ifB P hd ho hn (fun q => Et (by have := l0 q; simp only [cP, iff_true] at this; exact this)) (fun q => Ef (by have := l0 q; simp only [cP, Bool.false_eq_true, iff_false] at this; omega))
theorem icmp_le {o : Int} {x y : Int32} {n' : Nat} (P : Pos p l e R s m args below meth c Z own nm bytes maxL ret n0 T h cells slots) (hd : decode bytes pc = .ok (.if_icmp .le o, 3)) (ho : 0 ≤ (pc : Int) + o ∧ ((pc : Int) + o).toNat = n') (hn : n = pc + 3)
    (Et : x.toInt ≤ y.toInt → Ends p e below s R n0 Q T (mkF m n' Ls st)) (Ef : y.toInt < x.toInt → Ends p e below s R n0 Q T (mkF m n Ls st)) : Ends p e below s R n0 Q T (mkF m pc Ls (.int y :: .int x :: st)) :=
  icmpB P hd ho hn (fun q => Et (by have := ii q; simp only [cP, iff_true] at this; exact this)) (fun q => Ef (by have := ii q; simp only [cP, Bool.false_eq_true, iff_false] at this; omega))
theorem if0_le {o : Int} {x : Int32} {n' : Nat} (P : Pos p l e R s m args below meth c Z own nm bytes maxL ret n0 T h cells slots) (hd : decode bytes pc = .ok (.ifCond .le o, 3)) (ho : 0 ≤ (pc : Int) + o ∧ ((pc : Int) + o).toNat = n') (hn : n = pc + 3)
    (Et : x.toInt ≤ 0 → Ends p e below s R n0 Q T (mkF m n' Ls st)) (Ef : 0 < x.toInt → Ends p e below s R n0 Q T (mkF m n Ls st)) : Ends p e below s R n0 Q T (mkF m pc Ls (.int x :: st)) :=
  ifB P hd ho hn (fun q => Et (by have := i0 q; simp only [cP, iff_true] at this; exact this)) (fun q => Ef (by have := i0 q; simp only [cP, Bool.false_eq_true, iff_false] at this; omega))
theorem ifl_le {o : Int} {x y : Int64} {n' : Nat} (P : Pos p l e R s m args below meth c Z own nm bytes maxL ret n0 T h cells slots) (hd : decode bytes pc = .ok (.ifCond .le o, 3)) (ho : 0 ≤ (pc : Int) + o ∧ ((pc : Int) + o).toNat = n') (hn : n = pc + 3)
    (Et : x.toInt ≤ y.toInt → Ends p e below s R n0 Q T (mkF m n' Ls st)) (Ef : y.toInt < x.toInt → Ends p e below s R n0 Q T (mkF m n Ls st)) : Ends p e below s R n0 Q T (mkF m pc Ls (.int (lcmpW x y) :: st)) :=
  ifB P hd ho hn (fun q => Et (by have := l0 q; simp only [cP, iff_true] at this; exact this)) (fun q => Ef (by have := l0 q; simp only [cP, Bool.false_eq_true, iff_false] at this; omega))
theorem aT {x y : Value} (q : acV .eq (decide (x = y)) = true) : x = y := by simpa [acV] using q
theorem aF {x y : Value} (q : acV .eq (decide (x = y)) = false) : ¬ x = y := by simpa [acV] using q
theorem nT {x y : Value} (q : acV .ne (decide (x = y)) = true) : ¬ x = y := by simpa [acV] using q
theorem nF {x y : Value} (q : acV .ne (decide (x = y)) = false) : x = y := by simpa [acV] using q
/-! constants, statics, fields, objects -/
theorem ldcI {index : Nat} {v : Int32} (P : Pos p l e R s m args below meth c Z own nm bytes maxL ret n0 T h cells slots) (hd : decode bytes pc = .ok (.ldc index, 2)) (w : (Cond.constant own index v).before a0 Z = true) (hn : n = pc + 2) (E : Ends p e below s R n0 Q T (mkF m n Ls (.int v :: st))) : Ends p e below s R n0 Q T (mkF m pc Ls st) := by
  subst hn; obtain ⟨_, X, -⟩ := P.stand
  exact E.via fun t k => X.ldcInt P.hx P.own' (mvT P.hZ w) (g := mkF m pc Ls st) rfl (hb P.code hd) t k
theorem ldc2J {index : Nat} {v : Int64} (P : Pos p l e R s m args below meth c Z own nm bytes maxL ret n0 T h cells slots) (hd : decode bytes pc = .ok (.ldc2_w index, 3)) (w : (Cond.constantLong own index v).before a0 Z = true) (hn : n = pc + 3) (E : Ends p e below s R n0 Q T (mkF m n Ls (.long v :: st))) : Ends p e below s R n0 Q T (mkF m pc Ls st) := by
  subst hn; obtain ⟨_, X, -⟩ := P.stand
  exact E.via fun t k => X.ldc2Long P.hx P.own' (mvT P.hZ w) (g := mkF m pc Ls st) rfl (hb P.code hd) t k
theorem getS {index : Nat} {O f d : String} {v : Value} (P : Pos p l e R s m args below meth c Z own nm bytes maxL ret n0 T h cells slots) (hd : decode bytes pc = .ok (.getstatic index, 3)) (w : (Cond.fieldLink own index O f d).before a0 Z = true) (F : Sta Z h O f d v) (hn : n = pc + 3)
    (E : ∀ T, Pos p l e R s m args below meth c Z own nm bytes maxL ret n0 T h cells slots → Ends p e below s R n0 Q T (mkF m n Ls (v :: st))) : Ends p e below s R n0 Q T (mkF m pc Ls st) := by
  subst hn; obtain ⟨_, X, N⟩ := P.stand
  obtain ⟨T', X', e', k⟩ := Jvm.RoadKit.getS (host := "") X P.hx P.hZ P.own' w Via.refl P.heap F (g := mkF m pc Ls st) rfl (hb P.code hd)
  exact (E T' (P.to X' N e')).via k
theorem getF {index : Nat} {O f d : String} {v : Value} {a : Addr} (P : Pos p l e R s m args below meth c Z own nm bytes maxL ret n0 T h cells slots) (hd : decode bytes pc = .ok (.getfield index, 3)) (w : (Cond.fieldLink own index O f d).before a0 Z = true) (F : Fld Z h a O f d v) (hn : n = pc + 3)
    (E : ∀ T, Pos p l e R s m args below meth c Z own nm bytes maxL ret n0 T h cells slots → Ends p e below s R n0 Q T (mkF m n Ls (v :: st))) : Ends p e below s R n0 Q T (mkF m pc Ls (.ref a :: st)) := by
  subst hn; obtain ⟨_, X, N⟩ := P.stand
  obtain ⟨T', X', e', k⟩ := Jvm.RoadKit.getF (host := "") X P.hx P.hZ P.own' (Or.inl w) Via.refl P.heap F (g := mkF m pc Ls (.ref a :: st)) rfl rfl (hb P.code hd)
  exact (E T' (P.to X' N e')).via k
theorem putF {index kk : Nat} {O f d C : String} {v old : Value} {a : Addr} {ty : FieldType} (P : Pos p l e R s m args below meth c Z own nm bytes maxL ret n0 T h cells slots) (hd : decode bytes pc = .ok (.putfield index, 3)) (w : (Cond.fieldLink own index O f d).before a0 Z = true) (F : Fld Z h a O f d old) (X0 : Exa Z h a C)
    (L : (Cond.lays C O f d).before a0 Z = true ∨ ((Cond.laysFinal C O f d).before a0 Z = true ∧ own = O ∧ nm = "<init>")) (wi : (Cond.instantiable C kk).before a0 Z = true) (hty : parseFieldDescriptor d = some ty) (hnw : narrow ty v = v) (hf : fits ty v = true) (ha : n0 ≤ a) (hn : n = pc + 3)
    (E : ∀ T h', Pos p l e R s m args below meth c Z own nm bytes maxL ret n0 T h' cells slots → Wr h h' a (Jvm.RoadKit.slotOf Z O f d) v → Ends p e below s R n0 Q T (mkF m n Ls st)) : Ends p e below s R n0 Q T (mkF m pc Ls (v :: .ref a :: st)) := by
  subst hn; obtain ⟨_, X, N⟩ := P.stand
  obtain ⟨T', h', X', e', W, k⟩ := Jvm.RoadKit.putF (host := "") X P.hx P.hZ P.own' (Or.inl w) Via.refl P.heap F X0 (L.imp id fun q => ⟨q.1, q.2.1, P.name.trans q.2.2⟩) wi hty hnw hf (g := mkF m pc Ls (v :: .ref a :: st)) rfl rfl (hb P.code hd)
  exact (E T' h' (P.to X' (Fr.snoc X' N ha) e') W).via k
theorem newO {index k : Nat} {C : String} (P : Pos p l e R s m args below meth c Z own nm bytes maxL ret n0 T h cells slots) (hd : decode bytes pc = .ok (.new index, 3)) (w : (Cond.classLink own index C).before a0 Z = true) (wi : (Cond.instantiable C k).before a0 Z = true) (wz : (Cond.initialized C).before a0 Z = true) (hc : cells + 1 ≤ R.cells) (hl : slots + k ≤ R.slots) (hn : n = pc + 3)
    (E : ∀ T h' a, Pos p l e R s m args below meth c Z own nm bytes maxL ret n0 T h' (cells + 1) (slots + k) → Ext h h' → a = h.size → n0 ≤ a → Exa Z h' a C → (∀ {O f d : String} {ty : FieldType}, Laid Z a0 C O f d → parseFieldDescriptor d = some ty → Fld Z h' a O f d (defaultValue ty)) → Ends p e below s R n0 Q T (mkF m n Ls (.ref a :: st))) : Ends p e below s R n0 Q T (mkF m pc Ls st) := by
  subst hn; obtain ⟨_, X, N⟩ := P.stand
  obtain ⟨T', h', X', e', Ex, A, D, -, kk⟩ := Jvm.RoadKit.newO X P.hx P.hZ P.own' w wi wz P.heap (g := mkF m pc Ls st) rfl (hb P.code hd) hc hl
  exact (E T' h' _ (P.to X' N e') Ex rfl P.low A D).via kk
theorem initO {index : Nat} {a : Addr} (P : Pos p l e R s m args below meth c Z own nm bytes maxL ret n0 T h cells slots) (hd : decode bytes pc = .ok (.invokespecial index, 3)) (w1 : (Cond.methodLink own index Lib.objectInit).before a0 Z = true) (w2 : (Cond.instanceMethod Lib.objectInit).before a0 Z = true) (w3 : (Cond.code Lib.objectInit ⟨#[0xb1]⟩ 1 none).before a0 Z = true) (hsz : Ls.size = maxL)
    (hf : 1 ≤ R.frames) (hl : (st.map fun v => v.category).sum + 12 ≤ R.locals) (hn : n = pc + 3) (E : ∀ T, Pos p l e R s m args below meth c Z own nm bytes maxL ret n0 T h cells slots → Ends p e below s R n0 Q T (mkF m n Ls st)) : Ends p e below s R n0 Q T (mkF m pc Ls (.ref a :: st)) := by
  subst hn; obtain ⟨_, X, N⟩ := P.stand
  obtain ⟨T', X', e', k⟩ := Jvm.RoadKit.initO X P.hx P.hZ P.own' w1 w2 w3 P.heap (g := mkF m pc Ls (.ref a :: st)) rfl (hsz.trans P.maxl.symm) rfl (hb P.code hd) hf (W := (st.map fun v => v.category).sum) (by show 2 * 0 + _ ≤ _; omega) hl
  exact (E T' (P.to X' N e')).via k
/-! arrays: a length and what each place holds -/
def AR (Z : State) (h : Heap) (a : Addr) (ty : FieldType) (k : Nat) (f : Nat → Value) : Prop := ∃ cl : Cell, Arr Z h a cl ty ∧ cl.slots.size = k ∧ k < 2 ^ 31 ∧ ∀ i, i < k → cl.slots[i]? = some (f i)
/-- one place changed -/
def ovr {α : Type} (g : Nat → α) (i : Nat) (x : α) : Nat → α := fun j => if j = i then x else g j
theorem ovr_at {α : Type} (g : Nat → α) (i : Nat) (x : α) : ovr g i x i = x := by simp [ovr]
theorem ovr_ne {α : Type} (g : Nat → α) {i j : Nat} (x : α) (q : j ≠ i) : ovr g i x j = g j := by simp [ovr, q]
abbrev ARI (Z : State) (h : Heap) (a : Addr) (ty : FieldType) (k : Nat) (g : Nat → Int32) : Prop := AR Z h a ty k (fun i => .int (g i))
abbrev ARJ (Z : State) (h : Heap) (a : Addr) (k : Nat) (g : Nat → Int64) : Prop := AR Z h a .long k (fun i => .long (g i))
variable {a b : Addr} {ty : FieldType} {k : Nat} {f : Nat → Value}
theorem AR.lt (A : AR Z h a ty k f) : a < h.size := by obtain ⟨_, B, -⟩ := A; exact B.lt
theorem AR.len (A : AR Z h a ty k f) : k < 2 ^ 31 := by obtain ⟨_, _, _, r, _⟩ := A; exact r
theorem AR.ext (A : AR Z h a ty k f) (E : Ext h h') : AR Z h' a ty k f := by obtain ⟨cl, B, r⟩ := A; exact ⟨cl, B.ext E, r⟩
theorem AR.other {sl : Nat} {v : Value} (A : AR Z h b ty k f) (W : Wr h h' a sl v) (q : b ≠ a) : AR Z h' b ty k f := by obtain ⟨cl, B, r⟩ := A; exact ⟨cl, B.other W q, r⟩
theorem AR.keep {ws : List Addr} (A : AR Z h a ty k f) (K : Keep h h' ws) (q : a ∉ ws) : AR Z h' a ty k f := by obtain ⟨cl, B, r⟩ := A; exact ⟨cl, ⟨K.2.1 a cl B.1 q, B.2⟩, r⟩
theorem AR.congr {g : Nat → Value} (A : AR Z h a ty k f) (q : ∀ i, i < k → f i = g i) : AR Z h a ty k g := by obtain ⟨cl, B, r1, r2, r3⟩ := A; exact ⟨cl, B, r1, r2, fun i hi => by rw [r3 i hi, q i hi]⟩
theorem AR.set {i : Nat} {v : Value} (A : AR Z h a ty k f) (W : Wr h h' a i v) : AR Z h' a ty k (ovr f i v) := by
  obtain ⟨cl, B, r1, r2, r3⟩ := A
  refine ⟨_, B.same W, by rw [sz_set]; exact r1, r2, fun j hj => ?_⟩
  by_cases u : j = i
  · subst u; simp [Cell.setSlot, r1, hj, ovr]
  · simp only [Cell.setSlot, ovr, if_neg u]
    rw [Array.getElem?_setIfInBounds_ne (Ne.symm u)]; exact r3 j hj
theorem ARI.set {g : Nat → Int32} {i : Nat} {x : Int32} (A : ARI Z h a ty k g) (W : Wr h h' a i (.int x)) : ARI Z h' a ty k (ovr g i x) := by
  refine (AR.set A W).congr fun j _ => ?_
  by_cases u : j = i <;> simp [ovr, u]
theorem ARJ.set {g : Nat → Int64} {i : Nat} {x : Int64} (A : ARJ Z h a k g) (W : Wr h h' a i (.long x)) : ARJ Z h' a k (ovr g i x) := by
  refine (AR.set A W).congr fun j _ => ?_
  by_cases u : j = i <;> simp [ovr, u]
theorem inA {j : Int32} {i : Nat} {cl : Cell} (q : j.toInt = i ∧ i < k) (e : cl.slots.size = k) : ¬ (j < 0 ∨ cl.slots.size ≤ j.toNatClampNeg) ∧ j.toNatClampNeg = i := by
  have e0 : (0 : Int32).toInt = 0 := rfl
  simp only [Int32.lt_iff_toInt_lt, Int32.toNatClampNeg, e, e0]; omega
theorem newP {aty : ArrayType} {x : Int32} {cap : Nat} (P : Pos p l e R s m args below meth c Z own nm bytes maxL ret n0 T h cells slots) (hd : decode bytes pc = .ok (.newarray aty, 2)) (w : (Cond.arrayClass (newarray.typeOf aty)).before a0 Z = true) (hx : x.toInt = k ∧ k ≤ cap) (hb' : cap * 8 ≤ 536870912) (hc : cells + 1 ≤ R.cells ∧ slots + cap ≤ R.slots) (hn : n = pc + 2)
    (E : ∀ T h' a, Pos p l e R s m args below meth c Z own nm bytes maxL ret n0 T h' (cells + 1) (slots + cap) → Ext h h' → a = h.size → n0 ≤ a → AR Z h' a (newarray.typeOf aty) k (fun _ => defaultValue (newarray.typeOf aty)) → Ends p e below s R n0 Q T (mkF m n Ls (.ref a :: st))) : Ends p e below s R n0 Q T (mkF m pc Ls (.int x :: st)) := by
  subst hn; obtain ⟨_, X, N⟩ := P.stand
  have e0 : (0 : Int32).toInt = 0 := rfl
  have q1 : ¬ x < 0 := by rw [Int32.lt_iff_toInt_lt, e0]; omega
  have q2 : x.toNatClampNeg = k := by simp only [Int32.toNatClampNeg]; omega
  obtain ⟨T', h', cA, X', e', Ex, A, kk⟩ := Jvm.RoadKit.newP X P.hx P.hZ w P.heap (g := mkF m pc Ls (.int x :: st)) rfl (hb P.code hd) rfl q1 (cap := cap) (by omega) hb' hc.1 hc.2
  refine (E T' h' _ (P.to X' N e') Ex rfl P.low ⟨_, A, (sz_new _ _ _).trans q2, by have := rng32 x; omega, fun i hi => ?_⟩).via kk
  rw [← q2] at hi
  simp [newA, hi]
theorem ldA {i : Instr} {j : Int32} {u : Nat} {v : Value} (P : Pos p l e R s m args below meth c Z own nm bytes maxL ret n0 T h cells slots) (hd : decode bytes pc = .ok (i, 1)) (A : AR Z h a ty k f) (hi : (i = .baload ∧ (ty = .byte ∨ ty = .boolean)) ∨ (i = .iaload ∧ ty = .int) ∨ (i = .laload ∧ ty = .long) ∨ (i = .caload ∧ ty = .char) ∨ (i = .aaload ∧ ty.isReference = true)) (hj : j.toInt = u ∧ u < k) (hv : v = f u) (hn : n = pc + 1)
    (E : Ends p e below s R n0 Q T (mkF m n Ls (v :: st))) : Ends p e below s R n0 Q T (mkF m pc Ls (.int j :: .ref a :: st)) := by
  subst hn hv; obtain ⟨_, X, N⟩ := P.stand
  obtain ⟨cl, B, r1, r2, r3⟩ := A
  obtain ⟨q1, q5⟩ := inA hj r1
  have q2 : cl.slots[j.toNatClampNeg]? = some (f u) := by rw [q5]; exact r3 _ hj.2
  have q3 : T.heap[a]? = some cl := by rw [P.heap]; exact B.1
  have q4 := State.isArrayOf_alike (T := s) P.hZ.alike B.2.1
  rcases hi with ⟨rfl, rfl | rfl⟩ | ⟨rfl, rfl⟩ | ⟨rfl, rfl⟩ | ⟨rfl, rfl⟩ | ⟨rfl, ht⟩
  · exact E.via fun t k => X.baloadBytes P.hx q3 q4 B.2.2 q1 q2 (g := mkF m pc Ls (.int j :: .ref a :: st)) rfl rfl (hb P.code hd) t k
  · exact E.via fun t k => X.baloadBooleans P.hx q3 q4 B.2.2 q1 q2 (g := mkF m pc Ls (.int j :: .ref a :: st)) rfl rfl (hb P.code hd) t k
  · exact E.via fun t k => X.iaload P.hx q3 q4 B.2.2 q1 q2 (g := mkF m pc Ls (.int j :: .ref a :: st)) rfl rfl (hb P.code hd) t k
  · exact E.via fun t k => X.laload P.hx q3 q4 B.2.2 q1 q2 (g := mkF m pc Ls (.int j :: .ref a :: st)) rfl rfl (hb P.code hd) t k
  · exact E.via fun t k => X.caload P.hx q3 q4 B.2.2 q1 q2 (g := mkF m pc Ls (.int j :: .ref a :: st)) rfl rfl (hb P.code hd) t k
  · exact E.via fun t k => X.aaload P.hx q3 q4 ht B.2.2 q1 q2 (g := mkF m pc Ls (.int j :: .ref a :: st)) rfl rfl (hb P.code hd) t k
theorem baloadI {j : Int32} {u : Nat} {g : Nat → Int32} (P : Pos p l e R s m args below meth c Z own nm bytes maxL ret n0 T h cells slots) (hd : decode bytes pc = .ok (.baload, 1)) (A : ARI Z h a .byte k g) (hj : j.toInt = u ∧ u < k) (hn : n = pc + 1) (E : Ends p e below s R n0 Q T (mkF m n Ls (.int (g u) :: st))) : Ends p e below s R n0 Q T (mkF m pc Ls (.int j :: .ref a :: st)) := ldA P hd A (Or.inl ⟨rfl, Or.inl rfl⟩) hj rfl hn E
theorem zaloadI {j : Int32} {u : Nat} {g : Nat → Int32} (P : Pos p l e R s m args below meth c Z own nm bytes maxL ret n0 T h cells slots) (hd : decode bytes pc = .ok (.baload, 1)) (A : ARI Z h a .boolean k g) (hj : j.toInt = u ∧ u < k) (hn : n = pc + 1) (E : Ends p e below s R n0 Q T (mkF m n Ls (.int (g u) :: st))) : Ends p e below s R n0 Q T (mkF m pc Ls (.int j :: .ref a :: st)) := ldA P hd A (Or.inl ⟨rfl, Or.inr rfl⟩) hj rfl hn E
theorem ialoadI {j : Int32} {u : Nat} {g : Nat → Int32} (P : Pos p l e R s m args below meth c Z own nm bytes maxL ret n0 T h cells slots) (hd : decode bytes pc = .ok (.iaload, 1)) (A : ARI Z h a .int k g) (hj : j.toInt = u ∧ u < k) (hn : n = pc + 1) (E : Ends p e below s R n0 Q T (mkF m n Ls (.int (g u) :: st))) : Ends p e below s R n0 Q T (mkF m pc Ls (.int j :: .ref a :: st)) := ldA P hd A (Or.inr (Or.inl ⟨rfl, rfl⟩)) hj rfl hn E
theorem laloadJ {j : Int32} {u : Nat} {g : Nat → Int64} (P : Pos p l e R s m args below meth c Z own nm bytes maxL ret n0 T h cells slots) (hd : decode bytes pc = .ok (.laload, 1)) (A : ARJ Z h a k g) (hj : j.toInt = u ∧ u < k) (hn : n = pc + 1) (E : Ends p e below s R n0 Q T (mkF m n Ls (.long (g u) :: st))) : Ends p e below s R n0 Q T (mkF m pc Ls (.int j :: .ref a :: st)) := ldA P hd A (Or.inr (Or.inr (Or.inl ⟨rfl, rfl⟩))) hj rfl hn E
theorem alen {x : Int32} (P : Pos p l e R s m args below meth c Z own nm bytes maxL ret n0 T h cells slots) (hd : decode bytes pc = .ok (.arraylength, 1)) (A : AR Z h a ty k f) (hx : x.toInt = k) (hn : n = pc + 1)
    (E : Ends p e below s R n0 Q T (mkF m n Ls (.int x :: st))) : Ends p e below s R n0 Q T (mkF m pc Ls (.ref a :: st)) := by
  subst hn; obtain ⟨_, X, N⟩ := P.stand
  obtain ⟨cl, B, r1, r2, r3⟩ := A
  have q4 := State.isArrayOf_alike (T := s) P.hZ.alike B.2.1
  have q5 : cl.slots.size.toInt32 = x := by rw [← Int32.toInt_inj, len_toInt (by omega), r1, hx]
  exact E.via fun t k => X.arraylength P.hx (by rw [P.heap]; exact B.1) q4 (g := mkF m pc Ls (.ref a :: st)) rfl rfl (hb P.code hd) t (by rw [q5]; exact k)
theorem stI {j : Int32} {u : Nat} {x : Int32} (P : Pos p l e R s m args below meth c Z own nm bytes maxL ret n0 T h cells slots) (hd : decode bytes pc = .ok (.iastore, 1)) (A : AR Z h a .int k f) (hj : j.toInt = u ∧ u < k) (ha : n0 ≤ a) (hn : n = pc + 1)
    (E : ∀ T h', Pos p l e R s m args below meth c Z own nm bytes maxL ret n0 T h' cells slots → Wr h h' a u (.int (x)) → Ends p e below s R n0 Q T (mkF m n Ls st)) : Ends p e below s R n0 Q T (mkF m pc Ls (.int x :: .int j :: .ref a :: st)) := by
  subst hn; obtain ⟨_, X, N⟩ := P.stand
  obtain ⟨cl, B, r1, r2, r3⟩ := A
  obtain ⟨q1, q5⟩ := inA hj r1
  obtain ⟨T', h', X', e', W, kk⟩ := Jvm.RoadKit.stI X P.hx P.hZ P.heap B q1 (g := mkF m pc Ls (.int x :: .int j :: .ref a :: st)) rfl rfl (hb P.code hd)
  rw [q5] at W X'
  refine (E T' h' (P.to X' (Fr.snoc X' N ha) e') ?_).via kk
  exact W
theorem stJ {j : Int32} {u : Nat} {x : Int64} (P : Pos p l e R s m args below meth c Z own nm bytes maxL ret n0 T h cells slots) (hd : decode bytes pc = .ok (.lastore, 1)) (A : AR Z h a .long k f) (hj : j.toInt = u ∧ u < k) (ha : n0 ≤ a) (hn : n = pc + 1)
    (E : ∀ T h', Pos p l e R s m args below meth c Z own nm bytes maxL ret n0 T h' cells slots → Wr h h' a u (.long (x)) → Ends p e below s R n0 Q T (mkF m n Ls st)) : Ends p e below s R n0 Q T (mkF m pc Ls (.long x :: .int j :: .ref a :: st)) := by
  subst hn; obtain ⟨_, X, N⟩ := P.stand
  obtain ⟨cl, B, r1, r2, r3⟩ := A
  obtain ⟨q1, q5⟩ := inA hj r1
  obtain ⟨T', h', X', e', W, kk⟩ := Jvm.RoadKit.stJ X P.hx P.hZ P.heap B q1 (g := mkF m pc Ls (.long x :: .int j :: .ref a :: st)) rfl rfl (hb P.code hd)
  rw [q5] at W X'
  refine (E T' h' (P.to X' (Fr.snoc X' N ha) e') ?_).via kk
  exact W
theorem stB {j : Int32} {u : Nat} {x : Int32} (P : Pos p l e R s m args below meth c Z own nm bytes maxL ret n0 T h cells slots) (hd : decode bytes pc = .ok (.bastore, 1)) (A : AR Z h a .byte k f) (hj : j.toInt = u ∧ u < k) (ha : n0 ≤ a) (hn : n = pc + 1)
    (E : ∀ T h', Pos p l e R s m args below meth c Z own nm bytes maxL ret n0 T h' cells slots → Wr h h' a u (.int (x.toInt8.toInt32)) → Ends p e below s R n0 Q T (mkF m n Ls st)) : Ends p e below s R n0 Q T (mkF m pc Ls (.int x :: .int j :: .ref a :: st)) := by
  subst hn; obtain ⟨_, X, N⟩ := P.stand
  obtain ⟨cl, B, r1, r2, r3⟩ := A
  obtain ⟨q1, q5⟩ := inA hj r1
  obtain ⟨T', h', X', e', W, kk⟩ := Jvm.RoadKit.stB X P.hx P.hZ P.heap B q1 (g := mkF m pc Ls (.int x :: .int j :: .ref a :: st)) rfl rfl (hb P.code hd)
  rw [q5] at W X'
  refine (E T' h' (P.to X' (Fr.snoc X' N ha) e') ?_).via kk
  exact W
theorem stZ {j : Int32} {u : Nat} {x : Int32} (P : Pos p l e R s m args below meth c Z own nm bytes maxL ret n0 T h cells slots) (hd : decode bytes pc = .ok (.bastore, 1)) (A : AR Z h a .boolean k f) (hj : j.toInt = u ∧ u < k) (ha : n0 ≤ a) (hz : x = 0 ∨ x = 1) (hn : n = pc + 1)
    (E : ∀ T h', Pos p l e R s m args below meth c Z own nm bytes maxL ret n0 T h' cells slots → Wr h h' a u (.int (x)) → Ends p e below s R n0 Q T (mkF m n Ls st)) : Ends p e below s R n0 Q T (mkF m pc Ls (.int x :: .int j :: .ref a :: st)) := by
  subst hn; obtain ⟨_, X, N⟩ := P.stand
  obtain ⟨cl, B, r1, r2, r3⟩ := A
  obtain ⟨q1, q5⟩ := inA hj r1
  obtain ⟨T', h', X', e', W, kk⟩ := Jvm.RoadKit.stZ X P.hx P.hZ P.heap B q1 (g := mkF m pc Ls (.int x :: .int j :: .ref a :: st)) rfl rfl (hb P.code hd)
  rw [q5] at W X'
  refine (E T' h' (P.to X' (Fr.snoc X' N ha) e') ?_).via kk
  rcases hz with rfl | rfl <;> exact W
theorem stC {j : Int32} {u : Nat} {x : Int32} (P : Pos p l e R s m args below meth c Z own nm bytes maxL ret n0 T h cells slots) (hd : decode bytes pc = .ok (.castore, 1)) (A : AR Z h a .char k f) (hj : j.toInt = u ∧ u < k) (ha : n0 ≤ a) (hn : n = pc + 1)
    (E : ∀ T h', Pos p l e R s m args below meth c Z own nm bytes maxL ret n0 T h' cells slots → Wr h h' a u (.int (nar .char x)) → Ends p e below s R n0 Q T (mkF m n Ls st)) : Ends p e below s R n0 Q T (mkF m pc Ls (.int x :: .int j :: .ref a :: st)) := by
  subst hn; obtain ⟨_, X, N⟩ := P.stand
  obtain ⟨cl, B, r1, r2, r3⟩ := A
  obtain ⟨q1, q5⟩ := inA hj r1
  obtain ⟨T', h', X', e', W, kk⟩ := Jvm.RoadKit.stC X P.hx P.hZ P.heap B q1 (g := mkF m pc Ls (.int x :: .int j :: .ref a :: st)) rfl rfl (hb P.code hd)
  rw [q5] at W X'
  exact (E T' h' (P.to X' (Fr.snoc X' N ha) e') W).via kk
/-- the library's form of an array -/
theorem AR.arv {vs : List Value} {dv : Value} {N : Int32} (A : AR Z h a ty k f) (hN : N.toInt = k) (hv : ∀ i, i < k → f i = vs.getD i dv) (hf : ∀ i, i < k → fits ty (vs.getD i dv) = true) : ∃ kC, Arv Z h a kC ty N vs dv := by
  obtain ⟨cl, B, r1, r2, r3⟩ := A
  have e0 : (0 : Int32).toInt = 0 := rfl
  refine ⟨cl.cls, cl, B, rfl, by rw [r1]; simp only [Int32.toNatClampNeg]; omega, by rw [Int32.lt_iff_toInt_lt, e0]; omega, fun i hi => ?_, fun i hi => hf i (r1 ▸ hi)⟩
  rw [r1] at hi; rw [r3 i hi, hv i hi]
/-! arrays of references -/
def ARC (Z : State) (h : Heap) (a : Addr) (C : String) (k : Nat) (f : Nat → Value) : Prop := ∃ cl : Cell, Arr Z h a cl (.object C) ∧ cl.slots.size = k ∧ k < 2 ^ 31 ∧ (∀ i, i < k → cl.slots[i]? = some (f i)) ∧ Ovr Z cl.cls C
theorem ARC.ar {C : String} (A : ARC Z h a C k f) : AR Z h a (.object C) k f := by obtain ⟨cl, B, r1, r2, r3, -⟩ := A; exact ⟨cl, B, r1, r2, r3⟩
theorem ARC.lt {C : String} (A : ARC Z h a C k f) : a < h.size := A.ar.lt
theorem ARC.ext {C : String} (A : ARC Z h a C k f) (E : Ext h h') : ARC Z h' a C k f := by obtain ⟨cl, B, r⟩ := A; exact ⟨cl, B.ext E, r⟩
theorem ARC.other {C : String} {sl : Nat} {v : Value} (A : ARC Z h b C k f) (W : Wr h h' a sl v) (q : b ≠ a) : ARC Z h' b C k f := by obtain ⟨cl, B, r⟩ := A; exact ⟨cl, B.other W q, r⟩
theorem ARC.set {C : String} {i : Nat} {v : Value} (A : ARC Z h a C k f) (W : Wr h h' a i v) : ARC Z h' a C k (ovr f i v) := by
  obtain ⟨cl, B, r1, r2, r3, r4⟩ := A
  refine ⟨_, B.same W, by rw [sz_set]; exact r1, r2, fun j hj => ?_, r4⟩
  by_cases u : j = i
  · subst u; simp [Cell.setSlot, r1, hj, ovr]
  · simp only [Cell.setSlot, ovr, if_neg u]
    rw [Array.getElem?_setIfInBounds_ne (Ne.symm u)]; exact r3 j hj
theorem newR {index : Nat} {C : String} {x : Int32} {cap : Nat} (P : Pos p l e R s m args below meth c Z own nm bytes maxL ret n0 T h cells slots) (hd : decode bytes pc = .ok (.anewarray index, 3)) (w1 : (Cond.classLink own index C).before a0 Z = true) (w2 : (Cond.arrayOver (.object C)).before a0 Z = true) (hx : x.toInt = k ∧ k ≤ cap) (hb' : cap * 8 ≤ 536870912) (hc : cells + 1 ≤ R.cells ∧ slots + cap ≤ R.slots) (hn : n = pc + 3)
    (E : ∀ T h' a, Pos p l e R s m args below meth c Z own nm bytes maxL ret n0 T h' (cells + 1) (slots + cap) → Ext h h' → a = h.size → n0 ≤ a → ARC Z h' a C k (fun _ => .null) → Ends p e below s R n0 Q T (mkF m n Ls (.ref a :: st))) : Ends p e below s R n0 Q T (mkF m pc Ls (.int x :: st)) := by
  subst hn; obtain ⟨_, X, N⟩ := P.stand
  have e0 : (0 : Int32).toInt = 0 := rfl
  have q1 : ¬ x < 0 := by rw [Int32.lt_iff_toInt_lt, e0]; omega
  have q2 : x.toNatClampNeg = k := by simp only [Int32.toNatClampNeg]; omega
  obtain ⟨T', h', cA, X', e', Ex, A, O, kk⟩ := Jvm.RoadKit.newR X P.hx P.hZ P.own' w1 w2 P.heap (g := mkF m pc Ls (.int x :: st)) rfl (hb P.code hd) rfl q1 (cap := cap) (by omega) hb' hc.1 hc.2
  refine (E T' h' _ (P.to X' N e') Ex rfl P.low ⟨_, A, (sz_new _ _ _).trans q2, by have := rng32 x; omega, fun i hi => ?_, O⟩).via kk
  rw [← q2] at hi
  simp [newA, hi, defaultValue]
theorem stR {C : String} {j : Int32} {u : Nat} {y : Addr} (P : Pos p l e R s m args below meth c Z own nm bytes maxL ret n0 T h cells slots) (hd : decode bytes pc = .ok (.aastore, 1)) (A : ARC Z h a C k f) (hj : j.toInt = u ∧ u < k) (I : Ins Z h y C true) (ha : n0 ≤ a) (hn : n = pc + 1)
    (E : ∀ T h', Pos p l e R s m args below meth c Z own nm bytes maxL ret n0 T h' cells slots → Wr h h' a u (.ref y) → Ends p e below s R n0 Q T (mkF m n Ls st)) : Ends p e below s R n0 Q T (mkF m pc Ls (.ref y :: .int j :: .ref a :: st)) := by
  subst hn; obtain ⟨_, X, N⟩ := P.stand
  obtain ⟨cl, B, r1, r2, r3, r4⟩ := A
  obtain ⟨q1, q5⟩ := inA hj r1
  obtain ⟨T', h', X', e', W, kk⟩ := Jvm.RoadKit.stR X P.hx P.hZ P.heap B q1 rfl (Sto.of B r4 I) (g := mkF m pc Ls (.ref y :: .int j :: .ref a :: st)) rfl rfl (hb P.code hd)
  rw [q5] at W X'
  exact (E T' h' (P.to X' (Fr.snoc X' N ha) e') W).via kk
/-- null into an array of references -/
theorem stN {j : Int32} {u : Nat} (P : Pos p l e R s m args below meth c Z own nm bytes maxL ret n0 T h cells slots) (hd : decode bytes pc = .ok (.aastore, 1)) (A : AR Z h a ty k f) (ht : ty.isReference = true) (hj : j.toInt = u ∧ u < k) (ha : n0 ≤ a) (hn : n = pc + 1)
    (E : ∀ T h', Pos p l e R s m args below meth c Z own nm bytes maxL ret n0 T h' cells slots → Wr h h' a u .null → Ends p e below s R n0 Q T (mkF m n Ls st)) : Ends p e below s R n0 Q T (mkF m pc Ls (.null :: .int j :: .ref a :: st)) := by
  subst hn; obtain ⟨_, X, N⟩ := P.stand
  obtain ⟨cl, B, r1, r2, r3⟩ := A
  obtain ⟨q1, q5⟩ := inA hj r1
  obtain ⟨T', h', X', e', W, kk⟩ := Jvm.RoadKit.stR X P.hx P.hZ P.heap B q1 ht (Or.inl rfl) (g := mkF m pc Ls (.null :: .int j :: .ref a :: st)) rfl rfl (hb P.code hd)
  rw [q5] at W X'
  exact (E T' h' (P.to X' (Fr.snoc X' N ha) e') W).via kk
theorem newRA {index : Nat} {C ad : String} {ty : FieldType} {x : Int32} {cap : Nat} (P : Pos p l e R s m args below meth c Z own nm bytes maxL ret n0 T h cells slots) (hd : decode bytes pc = .ok (.anewarray index, 3)) (hC : (FieldType.array ty).toString = C) (had : "[" ++ C = ad) (w1 : (Cond.classLink own index C).before a0 Z = true) (w2 : (Cond.arrayOver (.array ty)).before a0 Z = true) (hx : x.toInt = k ∧ k ≤ cap) (hb' : cap * 8 ≤ 536870912) (hc : cells + 1 ≤ R.cells ∧ slots + cap ≤ R.slots) (hn : n = pc + 3)
    (E : ∀ T h' a, Pos p l e R s m args below meth c Z own nm bytes maxL ret n0 T h' (cells + 1) (slots + cap) → Ext h h' → a = h.size → n0 ≤ a → AR Z h' a (.array ty) k (fun _ => .null) → Ends p e below s R n0 Q T (mkF m n Ls (.ref a :: st))) : Ends p e below s R n0 Q T (mkF m pc Ls (.int x :: st)) := by
  subst hn; obtain ⟨_, X, N⟩ := P.stand
  have e0 : (0 : Int32).toInt = 0 := rfl
  have q1 : ¬ x < 0 := by rw [Int32.lt_iff_toInt_lt, e0]; omega
  have q2 : x.toNatClampNeg = k := by simp only [Int32.toNatClampNeg]; omega
  obtain ⟨T', h', cA, X', e', Ex, A, -, -, kk⟩ := Jvm.RoadKit.newRA X P.hx P.hZ P.own' hC w1 w2 P.heap (g := mkF m pc Ls (.int x :: st)) rfl (hb P.code hd) rfl q1 (cap := cap) (by omega) hb' hc.1 hc.2 had
  refine (E T' h' _ (P.to X' N e') Ex rfl P.low ⟨_, A, (sz_new _ _ _).trans q2, by have := rng32 x; omega, fun i hi => ?_⟩).via kk
  rw [← q2] at hi
  simp [newA, hi, defaultValue]
theorem aaloadA {j : Int32} {u : Nat} {g : Nat → Addr} {C : String} (P : Pos p l e R s m args below meth c Z own nm bytes maxL ret n0 T h cells slots) (hd : decode bytes pc = .ok (.aaload, 1)) (A : AR Z h a (.object C) k (fun i => .ref (g i))) (hj : j.toInt = u ∧ u < k) (hn : n = pc + 1) (E : Ends p e below s R n0 Q T (mkF m n Ls (.ref (g u) :: st))) : Ends p e below s R n0 Q T (mkF m pc Ls (.int j :: .ref a :: st)) := ldA P hd A (Or.inr (Or.inr (Or.inr (Or.inr ⟨rfl, rfl⟩)))) hj rfl hn E
/-! from the sheet's words -/
theorem eq_v {t : Term} {k : Int32} {idx : List Nat} (h : (Cond.eq t (.int k)).value args s none s idx = some true) : t.eval args s none idx s = some (.int k) := by
  cases hv : t.eval args s none idx s with
  | none => simp [Cond.value, hv] at h
  | some v => cases v <;> simp_all [Cond.value, Term.eval]
theorem ord_v {t : Term} {C nn d : String} {k : Int32} (ht : t.eval args s none [] s = some (.ref a)) (h : (Cond.eq (.field t C nn d) (.int k)).value args s none s [] = some true) : Fld s s.heap a C nn d (.int k) :=
  Fld.start ((fld_at (o := none) (args := args) (first := s) (idx := []) ht).symm.trans (eq_v h))
theorem fref_v {t u : Term} {C nn d : String} (ht : t.eval args s none [] s = some (.ref a)) (hu : u.eval args s none [] s = some (.ref b)) (h : (Cond.eq (.field t C nn d) u).value args s none s [] = some true) : Fld s s.heap a C nn d (.ref b) := by
  refine Fld.start ((fld_at (o := none) (args := args) (first := s) (idx := []) ht).symm.trans ?_)
  cases hv : (Term.field t C nn d).eval args s none [] s with
  | none => simp [Cond.value, hv] at h
  | some v => cases v <;> simp_all [Cond.value]
theorem AR.start {t : Term} {z : Int32} (ev : t.eval args s none [] s = some (.ref a)) (hx : (Cond.arrayOf t ty).value args s none s [] = some true) (hl : (Cond.eq (.length t) (.int z)).value args s none s [] = some true) (hz : z.toInt = k)
    (he : ∀ i, i < k → (Term.elem t (.int (Int32.ofNat i))).eval args s none [] s = some (f i)) : AR s s.heap a ty k f := by
  obtain ⟨cl, A⟩ := Arr.start ev hx
  have hA : s.arrayAt? a = some cl := A.fin (Vm.Alike.refl _)
  have hl2 := eq_v hl
  have hl3 : cl.slots.size < 2 ^ 31 ∧ cl.slots.size.toInt32 = z := by simpa [Term.eval, ev, hA] using hl2
  have hsz : cl.slots.size = k := by
    have := len_toInt hl3.1; rw [hl3.2, hz] at this; omega
  refine ⟨cl, A, hsz, by omega, fun i hi => ?_⟩
  have e2 := (elem_in (he i hi) ev (Term.int_eval _) A.1).2
  have e3 : (Int32.ofNat i).toNatClampNeg = i := by
    simp only [Int32.toNatClampNeg, Int32.toInt_ofNat_small (show i < 2 ^ 31 by omega)]; omega
  rw [e3] at e2; exact e2
/-! calls -/
theorem Meth.back {y : MethodName} {cb : ByteArray} {mL : Nat} {rt : Option FieldType} {rm : Room} {as : Array Value} {Qc : Option Value → Heap → Prop} {W : Nat} (hM : Meth l Z y cb mL rt rm as h n0 Qc) (hZ : Z.Warmed39 s.vm) (wc : (Cond.code y cb mL rt).before a0 Z = true) (wz : (Cond.initialized y.cls).before a0 Z = true) (hf : rm.frames + 1 ≤ R.frames) (hl : W + (mL + 11) + rm.locals ≤ R.locals) :
    Back l R p e below s args y 3 W (fun A a => a = as ∧ A.U.heap = h ∧ A.cells + rm.cells ≤ R.cells ∧ A.slots + rm.slots ≤ R.slots) (fun A _ v B => ∃ L, (Qc v B.U.heap ∧ Fr n0 L) ∧ B.locs = A.locs ++ L ∧ B.cells = A.cells + rm.cells ∧ B.slots = A.slots + rm.slots) :=
  backOf (Q := fun v h' L => Qc v h' ∧ Fr n0 L) (hM []) hZ wc wz hf hl
theorem callS {index : Nat} {y : MethodName} {cb : ByteArray} {mL : Nat} {rt : Option FieldType} {rm : Room} {argsL rest stk : List Value} {ps : List FieldType} {r : Option FieldType} {Qc : Option Value → Heap → Prop} (P : Pos p l e R s m args below meth c Z own nm bytes maxL ret n0 T h cells slots) (hd : decode bytes pc = .ok (.invokestatic index, 3))
    (hM : Meth l Z y cb mL rt rm argsL.toArray h n0 Qc) (w1 : (Cond.methodLink own index y).before a0 Z = true) (w2 : (Cond.static y).before a0 Z = true) (w3 : (Cond.initialized y.cls).before a0 Z = true) (w4 : (Cond.code y cb mL rt).before a0 Z = true) (hy : y.cls ≠ "java/lang/invoke/MethodHandle" ∧ y.cls ≠ "java/lang/invoke/VarHandle")
    (hp : parseMethodDescriptor y.desc = some ⟨ps, r⟩) (hl : argsL.length = ps.length) (hst : stk = argsL.reverse ++ rest) (hsz : Ls.size = maxL) (hr : rm.frames + 1 ≤ R.frames ∧ (rest.map fun v => v.category).sum + (mL + 11) + rm.locals ≤ R.locals ∧ cells + rm.cells ≤ R.cells ∧ slots + rm.slots ≤ R.slots) (hn : n = pc + 3)
    (E : ∀ T h' v, Pos p l e R s m args below meth c Z own nm bytes maxL ret n0 T h' (cells + rm.cells) (slots + rm.slots) → Qc v h' → Ends p e below s R n0 Q T (mkF m n Ls (v.toList ++ rest))) : Ends p e below s R n0 Q T (mkF m pc Ls stk) := by
  subst hn hst; obtain ⟨locs, X, N⟩ := P.stand
  obtain ⟨v, _, ⟨T', L', k', n'⟩, -, X', ⟨Lc, hQ, e1, e2, e3⟩, kk⟩ := Jvm.LawKit.callS X P.hx (y := y) P.own' (mvT P.hZ w1) (mvT P.hZ w2) (mvT P.hZ w3) (mvT P.hZ w4) hy (hM.back (W := (rest.map fun v => v.category).sum) P.hZ w4 w3 hr.1 hr.2.1) (g := mkF m pc Ls (argsL.reverse ++ rest)) rfl (hsz.trans P.maxl.symm) (argsL := argsL) (rest := rest) (lenOf hp hl) rfl (by show 2 * 0 + _ ≤ _; omega) (hb P.code hd) (fun _ _ => ⟨rfl, P.heap, hr.2.2.1, hr.2.2.2⟩)
  dsimp only [Pt.U, Pt.locs, Pt.cells, Pt.slots] at X' e1 e2 e3 kk hQ
  subst e1 e2 e3
  exact (E T' T'.heap v (P.to X' (Fr.app N hQ.2) rfl) hQ.1).via kk
theorem callN {a : Addr} {index : Nat} {y : MethodName} {cb : ByteArray} {mL : Nat} {rm : Room} {argsL rest stk : List Value} {ps : List FieldType} {r : Option FieldType} {Qc : Option Value → Heap → Prop} (P : Pos p l e R s m args below meth c Z own nm bytes maxL ret n0 T h cells slots) (hd : decode bytes pc = .ok (.invokespecial index, 3))
    (hM : Meth l Z y cb mL none rm (.ref a :: argsL).toArray h n0 Qc) (hy1 : y.name = "<init>") (w1 : (Cond.methodLink own index y).before a0 Z = true) (w2 : (Cond.instanceMethod y).before a0 Z = true) (w3 : (Cond.initialized y.cls).before a0 Z = true) (w4 : (Cond.code y cb mL none).before a0 Z = true) (hy : y.cls ≠ "java/lang/invoke/MethodHandle" ∧ y.cls ≠ "java/lang/invoke/VarHandle")
    (hp : parseMethodDescriptor y.desc = some ⟨ps, r⟩) (hl : argsL.length = ps.length) (hst : stk = argsL.reverse ++ .ref a :: rest) (hsz : Ls.size = maxL) (hr : rm.frames + 1 ≤ R.frames ∧ (rest.map fun v => v.category).sum + (mL + 11) + rm.locals ≤ R.locals ∧ cells + rm.cells ≤ R.cells ∧ slots + rm.slots ≤ R.slots) (hn : n = pc + 3)
    (E : ∀ T h' v, Pos p l e R s m args below meth c Z own nm bytes maxL ret n0 T h' (cells + rm.cells) (slots + rm.slots) → Qc v h' → Ends p e below s R n0 Q T (mkF m n Ls (v.toList ++ rest))) : Ends p e below s R n0 Q T (mkF m pc Ls stk) := by
  subst hn hst; obtain ⟨locs, X, N⟩ := P.stand
  obtain ⟨v, _, ⟨T', L', k', n'⟩, -, X', ⟨Lc, hQ, e1, e2, e3⟩, kk⟩ := X.specialBack P.hx (y := y) hy1 P.own' (mvT P.hZ w1) (mvT P.hZ w2) (mvT P.hZ w4) hy (hM.back (W := (rest.map fun v => v.category).sum) P.hZ w4 w3 hr.1 hr.2.1) (g := mkF m pc Ls (argsL.reverse ++ .ref a :: rest)) rfl (hsz.trans P.maxl.symm) (Steps.refl _) (a := a) (argsL := argsL) (rest := rest) (lenOf hp hl) rfl (by show 2 * 0 + _ ≤ _; omega) (hb P.code hd) (fun _ _ => ⟨rfl, P.heap, hr.2.2.1, hr.2.2.2⟩)
  dsimp only [Pt.U, Pt.locs, Pt.cells, Pt.slots] at X' e1 e2 e3 kk hQ
  subst e1 e2 e3
  exact (E T' T'.heap v (P.to X' (Fr.app N hQ.2) rfl) hQ.1).via fun t k => kk.trans k
theorem callV {a : Addr} {C : String} {z : MethodName} {index : Nat} {y : MethodName} {cb : ByteArray} {mL : Nat} {rt : Option FieldType} {rm : Room} {argsL rest stk : List Value} {ps : List FieldType} {r : Option FieldType} {Qc : Option Value → Heap → Prop} (P : Pos p l e R s m args below meth c Z own nm bytes maxL ret n0 T h cells slots) (hd : decode bytes pc = .ok (.invokevirtual index, 3))
    (hM : Meth l Z z cb mL rt rm (.ref a :: argsL).toArray h n0 Qc) (X0 : Exa Z h a C) (w1 : (Cond.methodLink own index y).before a0 Z = true) (w2 : (Cond.declares y).before a0 Z = true) (nf : NotFace s y) (ws : (Cond.selects C y z).before a0 Z = true) (wi : (Cond.instanceMethod z).before a0 Z = true) (w3 : (Cond.initialized z.cls).before a0 Z = true) (w4 : (Cond.code z cb mL rt).before a0 Z = true) (hy : y.cls ≠ "java/lang/invoke/MethodHandle" ∧ y.cls ≠ "java/lang/invoke/VarHandle")
    (hp : parseMethodDescriptor y.desc = some ⟨ps, r⟩) (hl : argsL.length = ps.length) (hst : stk = argsL.reverse ++ .ref a :: rest) (hsz : Ls.size = maxL) (hr : rm.frames + 1 ≤ R.frames ∧ (rest.map fun v => v.category).sum + (mL + 11) + rm.locals ≤ R.locals ∧ cells + rm.cells ≤ R.cells ∧ slots + rm.slots ≤ R.slots) (hn : n = pc + 3)
    (E : ∀ T h' v, Pos p l e R s m args below meth c Z own nm bytes maxL ret n0 T h' (cells + rm.cells) (slots + rm.slots) → Qc v h' → Ends p e below s R n0 Q T (mkF m n Ls (v.toList ++ rest))) : Ends p e below s R n0 Q T (mkF m pc Ls stk) := by
  subst hn hst; obtain ⟨locs, X, N⟩ := P.stand
  obtain ⟨cq, kq, q1, q2, q3⟩ := isOf P.hZ P.heap X0
  obtain ⟨v, _, ⟨T', L', k', n'⟩, -, X', ⟨Lc, hQ, e1, e2, e3⟩, kk⟩ := X.virtualBack P.hx (y := y) (z := z) P.own' (mvT P.hZ w1) (mvT P.hZ w2) nf (mvT P.hZ ws) (mvT P.hZ wi) hy (hM.back (W := (rest.map fun v => v.category).sum) P.hZ w4 w3 hr.1 hr.2.1) q1 q3 (g := mkF m pc Ls (argsL.reverse ++ .ref a :: rest)) rfl (hsz.trans P.maxl.symm) (Steps.refl _) (argsL := argsL) (rest := rest) (lenOf hp hl) rfl (by show 2 * 0 + _ ≤ _; omega) (hb P.code hd) (fun _ _ => ⟨rfl, P.heap, hr.2.2.1, hr.2.2.2⟩)
  dsimp only [Pt.U, Pt.locs, Pt.cells, Pt.slots] at X' e1 e2 e3 kk hQ
  subst e1 e2 e3
  exact (E T' T'.heap v (P.to X' (Fr.app N hQ.2) rfl) hQ.1).via fun t k => kk.trans k
theorem callP {a : Addr} {C : String} {kk : Nat} {index : Nat} {y : MethodName} {cb : ByteArray} {mL : Nat} {rt : Option FieldType} {rm : Room} {argsL rest stk : List Value} {ps : List FieldType} {r : Option FieldType} {Qc : Option Value → Heap → Prop} (P : Pos p l e R s m args below meth c Z own nm bytes maxL ret n0 T h cells slots) (hd : decode bytes pc = .ok (.invokevirtual index, 3))
    (hM : Meth l Z y cb mL rt rm (.ref a :: argsL).toArray h n0 Qc) (X0 : Exa Z h a C) (w1 : (Cond.methodLink own index y).before a0 Z = true) (wi : (Cond.instanceMethod y).before a0 Z = true) (wn : (Cond.instantiable y.cls kk).before a0 Z = true) (wp : (Cond.privateMethod y).before a0 Z = true) (w3 : (Cond.initialized y.cls).before a0 Z = true) (w4 : (Cond.code y cb mL rt).before a0 Z = true) (hy : y.cls ≠ "java/lang/invoke/MethodHandle" ∧ y.cls ≠ "java/lang/invoke/VarHandle")
    (hp : parseMethodDescriptor y.desc = some ⟨ps, r⟩) (hl : argsL.length = ps.length) (hst : stk = argsL.reverse ++ .ref a :: rest) (hsz : Ls.size = maxL) (hr : rm.frames + 1 ≤ R.frames ∧ (rest.map fun v => v.category).sum + (mL + 11) + rm.locals ≤ R.locals ∧ cells + rm.cells ≤ R.cells ∧ slots + rm.slots ≤ R.slots) (hn : n = pc + 3)
    (E : ∀ T h' v, Pos p l e R s m args below meth c Z own nm bytes maxL ret n0 T h' (cells + rm.cells) (slots + rm.slots) → Qc v h' → Ends p e below s R n0 Q T (mkF m n Ls (v.toList ++ rest))) : Ends p e below s R n0 Q T (mkF m pc Ls stk) := by
  subst hn hst; obtain ⟨locs, X, N⟩ := P.stand
  obtain ⟨cq, q1, q2⟩ := X0.cell
  have wi' : (Cond.instanceMethod y).before args s = true := mvT P.hZ wi
  have pv : s.PrivateAt y := Cond.privateMethod_at (mvP P.hZ wp (args := #[]))
  obtain ⟨c0, k0, hc0, hk0, -, hfl, -⟩ := Cond.instantiable_spec (mvT P.hZ wn (args := args))
  have ws : (Cond.selects y.cls y y).before args s = true := selects_self_of_private hc0 hk0 (by simp_all) pv wi' hy
  obtain ⟨v, _, ⟨T', L', k', n'⟩, -, X', ⟨Lc, hQ, e1, e2, e3⟩, kk⟩ := X.privateBack P.hx (y := y) P.own' (mvT P.hZ w1) wi' ws pv (mvT P.hZ w4) hy (hM.back (W := (rest.map fun v => v.category).sum) P.hZ w4 w3 hr.1 hr.2.1) (g := mkF m pc Ls (argsL.reverse ++ .ref a :: rest)) rfl (hsz.trans P.maxl.symm) (Steps.refl _) (a := a) (by rw [P.heap]; exact q1) q2 (argsL := argsL) (rest := rest) (lenOf hp hl) rfl (by show 2 * 0 + _ ≤ _; omega) (hb P.code hd) (fun _ _ => ⟨rfl, P.heap, hr.2.2.1, hr.2.2.2⟩)
  dsimp only [Pt.U, Pt.locs, Pt.cells, Pt.slots] at X' e1 e2 e3 kk hQ
  subst e1 e2 e3
  exact (E T' T'.heap v (P.to X' (Fr.app N hQ.2) rfl) hQ.1).via fun t k => kk.trans k
/-- a constructor's call paid by a given Back -/
theorem callNB {a : Addr} {index : Nat} {y : MethodName} {cb : ByteArray} {mL : Nat} {argsL rest stk : List Value} {ps : List FieldType} {r : Option FieldType} {kc ks : Nat} {QQ : Option Value → Heap → List Loc → Prop} (P : Pos p l e R s m args below meth c Z own nm bytes maxL ret n0 T h cells slots) (hd : decode bytes pc = .ok (.invokespecial index, 3))
    (hB : Back l R p e below s args y 3 (rest.map fun v => v.category).sum (fun A a' => a' = (.ref a :: argsL).toArray ∧ A.U.heap = h ∧ A.cells + kc ≤ R.cells ∧ A.slots + ks ≤ R.slots) (fun A _ v B => ∃ L, QQ v B.U.heap L ∧ B.locs = A.locs ++ L ∧ B.cells = A.cells + kc ∧ B.slots = A.slots + ks))
    (hQF : ∀ v h' L, QQ v h' L → Fr n0 L) (hy1 : y.name = "<init>") (w1 : (Cond.methodLink own index y).before a0 Z = true) (w2 : (Cond.instanceMethod y).before a0 Z = true) (w4 : (Cond.code y cb mL none).before a0 Z = true) (hy : y.cls ≠ "java/lang/invoke/MethodHandle" ∧ y.cls ≠ "java/lang/invoke/VarHandle")
    (hp : parseMethodDescriptor y.desc = some ⟨ps, r⟩) (hl : argsL.length = ps.length) (hst : stk = argsL.reverse ++ .ref a :: rest) (hsz : Ls.size = maxL) (hr : cells + kc ≤ R.cells ∧ slots + ks ≤ R.slots) (hn : n = pc + 3)
    (E : ∀ T h' v L, Pos p l e R s m args below meth c Z own nm bytes maxL ret n0 T h' (cells + kc) (slots + ks) → QQ v h' L → Ends p e below s R n0 Q T (mkF m n Ls (v.toList ++ rest))) : Ends p e below s R n0 Q T (mkF m pc Ls stk) := by
  subst hn hst; obtain ⟨locs, X, N⟩ := P.stand
  obtain ⟨v, _, ⟨T', L', k', n'⟩, -, X', ⟨Lc, hQ, e1, e2, e3⟩, kk⟩ := X.specialBack P.hx (y := y) hy1 P.own' (mvT P.hZ w1) (mvT P.hZ w2) (mvT P.hZ w4) hy hB (g := mkF m pc Ls (argsL.reverse ++ .ref a :: rest)) rfl (hsz.trans P.maxl.symm) (Steps.refl _) (a := a) (argsL := argsL) (rest := rest) (lenOf hp hl) rfl (by show 2 * 0 + _ ≤ _; omega) (hb P.code hd) (fun _ _ => ⟨rfl, P.heap, hr.1, hr.2⟩)
  dsimp only [Pt.U, Pt.locs, Pt.cells, Pt.slots] at X' e1 e2 e3 kk hQ
  subst e1 e2 e3
  exact (E T' T'.heap v Lc (P.to X' (Fr.app N (hQF _ _ _ hQ)) rfl) hQ).via fun t k => kk.trans k
/-- returns v and leaves the heap as it was -/
def Ret (v : Value) (h : Heap) : Option Value → Heap → Prop := fun w h' => w = some v ∧ h' = h
theorem Ret.ofI {x y : Int32} (q : x = y) : Ret (.int y) h (some (.int x)) h := ⟨by rw [q], rfl⟩
theorem Ret.ofL {x y : Int64} (q : x = y) : Ret (.long y) h (some (.long x)) h := ⟨by rw [q], rfl⟩
theorem Ret.ofA {x y : Value} (q : x = y) : Ret y h (some x) h := ⟨by rw [q], rfl⟩
/-- the continuation behind a call that only returns -/
theorem Ret.on {v : Value} {cells' slots' : Nat} {rest : List Value} (E : ∀ T, Pos p l e R s m args below meth c Z own nm bytes maxL ret n0 T h cells' slots' → Ends p e below s R n0 Q T (mkF m n Ls (v :: rest))) :
    ∀ T h' w, Pos p l e R s m args below meth c Z own nm bytes maxL ret n0 T h' cells' slots' → Ret v h w h' → Ends p e below s R n0 Q T (mkF m n Ls (w.toList ++ rest)) := by
  rintro T h' w P ⟨rfl, rfl⟩; exact E T P

/-- returns nothing and leaves the heap as it was -/
def RetV (h : Heap) : Option Value → Heap → Prop := fun w h' => w = none ∧ h' = h
theorem RetV.mk : RetV h none h := ⟨rfl, rfl⟩
theorem RetV.on {cells' slots' : Nat} {rest : List Value} (E : ∀ T, Pos p l e R s m args below meth c Z own nm bytes maxL ret n0 T h cells' slots' → Ends p e below s R n0 Q T (mkF m n Ls rest)) :
    ∀ T h' w, Pos p l e R s m args below meth c Z own nm bytes maxL ret n0 T h' cells' slots' → RetV h w h' → Ends p e below s R n0 Q T (mkF m n Ls (w.toList ++ rest)) := by
  rintro T h' w P ⟨rfl, rfl⟩; exact E T P
/-- returns an int (a long) of which F holds, and leaves the heap as it was -/
def RetI (F : Int32 → Prop) (h : Heap) : Option Value → Heap → Prop := fun w h' => ∃ z, w = some (.int z) ∧ F z ∧ h' = h
def RetJ (F : Int64 → Prop) (h : Heap) : Option Value → Heap → Prop := fun w h' => ∃ z, w = some (.long z) ∧ F z ∧ h' = h
theorem RetI.mk {F : Int32 → Prop} {x : Int32} (q : F x) : RetI F h (some (.int x)) h := ⟨x, rfl, q, rfl⟩
theorem RetJ.mk {F : Int64 → Prop} {x : Int64} (q : F x) : RetJ F h (some (.long x)) h := ⟨x, rfl, q, rfl⟩
theorem RetI.on {F : Int32 → Prop} {cells' slots' : Nat} {rest : List Value} (E : ∀ T z, Pos p l e R s m args below meth c Z own nm bytes maxL ret n0 T h cells' slots' → F z → Ends p e below s R n0 Q T (mkF m n Ls (.int z :: rest))) :
    ∀ T h' w, Pos p l e R s m args below meth c Z own nm bytes maxL ret n0 T h' cells' slots' → RetI F h w h' → Ends p e below s R n0 Q T (mkF m n Ls (w.toList ++ rest)) := by
  rintro T h' w P ⟨z, rfl, q, rfl⟩; exact E T z P q
theorem RetJ.on {F : Int64 → Prop} {cells' slots' : Nat} {rest : List Value} (E : ∀ T z, Pos p l e R s m args below meth c Z own nm bytes maxL ret n0 T h cells' slots' → F z → Ends p e below s R n0 Q T (mkF m n Ls (.long z :: rest))) :
    ∀ T h' w, Pos p l e R s m args below meth c Z own nm bytes maxL ret n0 T h' cells' slots' → RetJ F h w h' → Ends p e below s R n0 Q T (mkF m n Ls (w.toList ++ rest)) := by
  rintro T h' w P ⟨z, rfl, q, rfl⟩; exact E T z P q
end Core
/-! numbers: what an operation is worth where nothing wraps -/
section Num
theorem n_iadd {x y z : Int32} {X Y : Int} (hz : z = x + y) (hx : x.toInt = X) (hy : y.toInt = Y) (b : -2147483648 ≤ X + Y ∧ X + Y ≤ 2147483647) : z.toInt = X + Y := by
  subst hz hx hy; have := c_iadd x y; have := rng32 (x + y); omega
theorem n_isub {x y z : Int32} {X Y : Int} (hz : z = x - y) (hx : x.toInt = X) (hy : y.toInt = Y) (b : -2147483648 ≤ X - Y ∧ X - Y ≤ 2147483647) : z.toInt = X - Y := by
  subst hz hx hy; have := c_isub x y; have := rng32 (x - y); omega
theorem n_imul {x y z : Int32} {X Y : Int} (hz : z = x * y) (hx : x.toInt = X) (hy : y.toInt = Y) (b : -2147483648 ≤ X * Y ∧ X * Y ≤ 2147483647) : z.toInt = X * Y := by
  subst hz hx hy; have h1 := c_imul x y; have := rng32 (x * y); generalize x.toInt * y.toInt = w at *; omega
theorem n_ladd {x y z : Int64} {X Y : Int} (hz : z = x + y) (hx : x.toInt = X) (hy : y.toInt = Y) (b : -9223372036854775808 ≤ X + Y ∧ X + Y ≤ 9223372036854775807) : z.toInt = X + Y := by
  subst hz hx hy; have := c_ladd x y; have := rng64 (x + y); omega
theorem n_lsub {x y z : Int64} {X Y : Int} (hz : z = x - y) (hx : x.toInt = X) (hy : y.toInt = Y) (b : -9223372036854775808 ≤ X - Y ∧ X - Y ≤ 9223372036854775807) : z.toInt = X - Y := by
  subst hz hx hy; have := c_lsub x y; have := rng64 (x - y); omega
theorem n_lmul {x y z : Int64} {X Y : Int} (hz : z = x * y) (hx : x.toInt = X) (hy : y.toInt = Y) (b : -9223372036854775808 ≤ X * Y ∧ X * Y ≤ 9223372036854775807) : z.toInt = X * Y := by
  subst hz hx hy; have h1 := c_lmul x y; have := rng64 (x * y); generalize x.toInt * y.toInt = w at *; omega
theorem n_i2l {x : Int32} {z : Int64} {X : Int} (hz : z = x.toInt64) (hx : x.toInt = X) : z.toInt = X := by subst hz hx; exact c_i2l x
theorem n_irem {x y z : Int32} {X Y : Int} (hz : z = x % y) (hx : x.toInt = X) (hy : y.toInt = Y) (b : 0 ≤ X) : z.toInt = X % Y := by
  subst hz hx; exact (c_irem x y Y hy).1 b
theorem n_idiv {x y z : Int32} {X Y : Int} (hz : z = x / y) (hx : x.toInt = X) (hy : y.toInt = Y) (b : 0 ≤ X ∧ 0 < Y) : z.toInt = X / Y := by
  subst hz hx; exact (c_idiv x y Y hy (fun q => by subst q; have : (-1 : Int32).toInt = -1 := rfl; omega)).1 b.1
theorem n_ldiv {x y z : Int64} {X Y : Int} (hz : z = x / y) (hx : x.toInt = X) (hy : y.toInt = Y) (b : 0 ≤ X ∧ 0 < Y) : z.toInt = X / Y := by
  subst hz hx; exact (c_ldiv x y Y hy (fun q => by subst q; have : (-1 : Int64).toInt = -1 := rfl; omega)).1 b.1
theorem n_mask {x m z : Int32} {X : Int} (k : Nat) (hz : z = x &&& m) (hx : x.toInt = X) (hk : k ≤ 31 ∧ m.toBitVec.toNat = 2 ^ k - 1) : z.toInt = X % (2 ^ k : Nat) := by subst hz hx; exact c_mask x m k hk.1 hk.2
theorem n_maskL {x m z : Int64} {X : Int} (k : Nat) (hz : z = x &&& m) (hx : x.toInt = X) (hk : k ≤ 63 ∧ m.toBitVec.toNat = 2 ^ k - 1) : z.toInt = X % (2 ^ k : Nat) := by subst hz hx; exact c_maskL x m k hk.1 hk.2
theorem n_iushr {x q z : Int32} {X : Int} (k : Nat) (hz : z = (x.toUInt32 >>> (q &&& 31).toUInt32).toInt32) (hx : x.toInt = X) (hk : q.toBitVec.toNat % 32 = k ∧ 0 < k) : z.toInt = (X % 4294967296) / (2 ^ k : Nat) := by subst hz hx; exact c_iushr x q k hk.1 hk.2
theorem n_ishr {x q z : Int32} {X : Int} (k : Nat) (hz : z = x >>> (q &&& 31)) (hx : x.toInt = X) (hk : q.toBitVec.toNat % 32 = k) : z.toInt = X / (2 ^ k : Nat) := by subst hz hx; exact c_ishr x q k hk
theorem n_iremV {x y z : Int32} (hz : z = x % y) (hx : 0 ≤ x.toInt) (hy : 0 < y.toInt) : 0 ≤ z.toInt ∧ z.toInt < y.toInt := by
  subst hz; have := (c_iremV x y).1 hx hy; omega
theorem nzI {y : Int32} (h : ¬ y.toInt = 0) : y ≠ 0 := fun q => h (by rw [q]; rfl)
theorem nzL {y : Int64} (h : ¬ y.toInt = 0) : y ≠ 0 := fun q => h (by rw [q]; rfl)
theorem b8 (x : Int32) : x.toInt8.toInt32.toInt8.toInt32 = x.toInt8.toInt32 := by simp
theorem eqI {x y : Int32} (h : x.toInt = y.toInt) : x = y := Int32.toInt_inj.mp h
theorem eqL {x y : Int64} (h : x.toInt = y.toInt) : x = y := Int64.toInt_inj.mp h
theorem ofI {x : Int32} {X : Int} (h : x.toInt = X) : x = Int32.ofInt X := by rw [← h]; exact (Int32.ofInt_toInt x).symm
theorem ofL {x : Int64} {X : Int} (h : x.toInt = X) : x = Int64.ofInt X := by rw [← h]; exact (Int64.ofInt_toInt x).symm
end Num
end Jvm.Own
namespace Jvm.Pilot.@@N@@
open Jvm Jvm.ClassFile Sem Op Lib Jvm.Free Jvm.Stand Jvm.LawKit Jvm.RoadKit Bundle Jvm.Pilot.@@N@@.Jvm.D
open Jvm.Own
def own_days (k : Nat) : Int32 := [0, 31, 59, 90, 120, 151, 181, 212, 243, 273, 304, 334, 365].getD k 0
theorem own_days_le (k : Nat) (h : k ≤ 12) : 0 ≤ (own_days k).toInt ∧ (own_days k).toInt ≤ 365 := by
  have hk : k = 0 ∨ k = 1 ∨ k = 2 ∨ k = 3 ∨ k = 4 ∨ k = 5 ∨ k = 6 ∨ k = 7 ∨ k = 8 ∨ k = 9 ∨ k = 10 ∨ k = 11 ∨ k = 12 := by omega
  rcases hk with rfl | rfl | rfl | rfl | rfl | rfl | rfl | rfl | rfl | rfl | rfl | rfl | rfl <;> decide
def own_leap (y : Int) : Prop := y % 4 = 0 ∧ (¬ y % 100 = 0 ∨ y % 400 = 0)
def own_ref (yy mp d : Int) : Int := yy / 400 * 146097 + ((yy - yy / 400 * 400) * 365 + (yy - yy / 400 * 400) / 4 - (yy - yy / 400 * 400) / 100 + ((153 * mp + 2) / 5 + d - 1)) - 719468
def own_ep (y dd e d : Int) : Int := 365 * (y - 1) + (y - 1) / 4 - (y - 1) / 100 + (y - 1) / 400 + dd + e + d - 1 - 719162
theorem own_early (y d mp dd : Int) (hy : 1 ≤ y) (h : (153 * mp + 2) / 5 = dd + 306) : own_ep y dd 0 d = own_ref (y - 1) mp d := by
  unfold own_ep own_ref; rw [h]; omega
theorem own_late (y d mp dd e : Int) (hy : 1 ≤ y) (he : (own_leap y ∧ e = 1) ∨ (¬ own_leap y ∧ e = 0)) (h : (153 * mp + 2) / 5 = dd - 59) : own_ep y dd e d = own_ref y mp d := by
  unfold own_ep own_ref own_leap at *; rw [h]; omega
theorem d3_0 : decode prog_10_method_18_code 0 = .ok (.iload_n 0, 1) := by decide +kernel
theorem d3_1 : decode prog_10_method_18_code 1 = .ok (.iconst 4, 1) := by decide +kernel
theorem d3_2 : decode prog_10_method_18_code 2 = .ok (.irem, 1) := by decide +kernel
theorem d3_3 : decode prog_10_method_18_code 3 = .ok (.ifCond .ne 22, 3) := by decide +kernel
theorem d3_6 : decode prog_10_method_18_code 6 = .ok (.iload_n 0, 1) := by decide +kernel
theorem d3_7 : decode prog_10_method_18_code 7 = .ok (.bipush 100, 2) := by decide +kernel
theorem d3_9 : decode prog_10_method_18_code 9 = .ok (.irem, 1) := by decide +kernel
theorem d3_10 : decode prog_10_method_18_code 10 = .ok (.ifCond .ne 11, 3) := by decide +kernel
theorem d3_13 : decode prog_10_method_18_code 13 = .ok (.iload_n 0, 1) := by decide +kernel
theorem d3_14 : decode prog_10_method_18_code 14 = .ok (.sipush 400, 3) := by decide +kernel
theorem d3_17 : decode prog_10_method_18_code 17 = .ok (.irem, 1) := by decide +kernel
theorem d3_18 : decode prog_10_method_18_code 18 = .ok (.ifCond .ne 7, 3) := by decide +kernel
theorem d3_21 : decode prog_10_method_18_code 21 = .ok (.iconst 1, 1) := by decide +kernel
theorem d3_22 : decode prog_10_method_18_code 22 = .ok (.goto 4, 3) := by decide +kernel
theorem d3_25 : decode prog_10_method_18_code 25 = .ok (.iconst 0, 1) := by decide +kernel
theorem d3_26 : decode prog_10_method_18_code 26 = .ok (.ireturn, 1) := by decide +kernel
theorem ef_3 (m : MethodId) (u : Int32) : entryFrame m #[(.int u)] 1 = mkF m 0 #[.val (.int u)] [] := by first | (simp [entryFrame, mkF, argsToLocals, Value.category]; done) | rfl
theorem pn_0 : plainName "com/example/sessionloom/sessionloom/FixedTimeFormat" = true := by first | (simp [plainName, overriddenIn]; done) | decide +kernel
abbrev rm_c_isLeap : Room := { frames := 0, cells := 0, slots := 0, locals := 0 }
set_option maxRecDepth 65536 in
set_option maxHeartbeats 40000000 in
theorem c_isLeap (l : Launch) (Z : State) (a0 : Array Value) (hw : ∀ d ∈ tables_1, d.before a0 Z = true) (u : Int32)  (h0 : Heap) (n0 : Nat) (low : n0 ≤ h0.size) (hu : 0 ≤ u.toInt) :
    Meth l Z (⟨"com/example/sessionloom/sessionloom/FixedTimeFormat", "isLeap", "(I)Z"⟩ : MethodName) prog_10_method_18_code 1 (some .boolean) rm_c_isLeap #[(.int u)] h0 n0 (RetI (fun z => (own_leap u.toInt ∧ z.toInt = 1) ∨ (¬ own_leap u.toInt ∧ z.toInt = 0)) h0) := by
  refine Meth.of (plainFor_of_name pn_0) low ?_
  intro p e s m args below meth c T P
  refine Ends.cast (ef_3 m u) ?_
  refine iloadN P d3_0 rfl (n := 1) rfl ?_
  refine iconst P d3_1 (x := (4 : Int32)) rfl (n := 2) rfl ?_
  refine irem P d3_2 (by decide) (n := 3) rfl ?_
  refine nameI (x := (u % (4 : Int32))) (F := fun z1 => Jvm.Own.Ends p e below s rm_c_isLeap n0 (RetI (fun z => (own_leap u.toInt ∧ z.toInt = 1) ∨ (¬ own_leap u.toInt ∧ z.toInt = 0)) h0) T (mkF m 3 #[.val (.int u)] [(.int z1)])) ?_
  intro z1 hz1
  have tz1 : z1.toInt = u.toInt % (4 : Int) := n_irem hz1 rfl rfl (by omega)
  refine if0_ne P d3_3 (n' := 25) (n := 6) (by decide) rfl (fun hc3 => ?_) (fun hc3 => ?_)
  · -- pc 3 taken
    replace hc3 : ¬ z1.toInt = (0 : Int) := hc3
    refine iconst P d3_25 (x := (0 : Int32)) rfl (n := 26) rfl ?_
    refine retZ P d3_26 (by decide) (by decide) (by decide) ?_
    refine RetI.mk ?_
    unfold own_leap
    first | exact Or.inl ⟨by omega, rfl⟩ | exact Or.inr ⟨by omega, rfl⟩
  · -- pc 3 not taken
    replace hc3 : z1.toInt = (0 : Int) := hc3
    refine iloadN P d3_6 rfl (n := 7) rfl ?_
    refine bipush P d3_7 (x := (100 : Int32)) rfl (n := 9) rfl ?_
    refine irem P d3_9 (by decide) (n := 10) rfl ?_
    refine nameI (x := (u % (100 : Int32))) (F := fun z2 => Jvm.Own.Ends p e below s rm_c_isLeap n0 (RetI (fun z => (own_leap u.toInt ∧ z.toInt = 1) ∨ (¬ own_leap u.toInt ∧ z.toInt = 0)) h0) T (mkF m 10 #[.val (.int u)] [(.int z2)])) ?_
    intro z2 hz2
    have tz2 : z2.toInt = u.toInt % (100 : Int) := n_irem hz2 rfl rfl (by omega)
    refine if0_ne P d3_10 (n' := 21) (n := 13) (by decide) rfl (fun hc10 => ?_) (fun hc10 => ?_)
    · -- pc 10 taken
      replace hc10 : ¬ z2.toInt = (0 : Int) := hc10
      refine iconst P d3_21 (x := (1 : Int32)) rfl (n := 22) rfl ?_
      refine goto P d3_22 (n := 26) (by decide) ?_
      refine retZ P d3_26 (by decide) (by decide) (by decide) ?_
      refine RetI.mk ?_
      unfold own_leap
      first | exact Or.inl ⟨by omega, rfl⟩ | exact Or.inr ⟨by omega, rfl⟩
    · -- pc 10 not taken
      replace hc10 : z2.toInt = (0 : Int) := hc10
      refine iloadN P d3_13 rfl (n := 14) rfl ?_
      refine sipush P d3_14 (x := (400 : Int32)) rfl (n := 17) rfl ?_
      refine irem P d3_17 (by decide) (n := 18) rfl ?_
      refine nameI (x := (u % (400 : Int32))) (F := fun z3 => Jvm.Own.Ends p e below s rm_c_isLeap n0 (RetI (fun z => (own_leap u.toInt ∧ z.toInt = 1) ∨ (¬ own_leap u.toInt ∧ z.toInt = 0)) h0) T (mkF m 18 #[.val (.int u)] [(.int z3)])) ?_
      intro z3 hz3
      have tz3 : z3.toInt = u.toInt % (400 : Int) := n_irem hz3 rfl rfl (by omega)
      refine if0_ne P d3_18 (n' := 25) (n := 21) (by decide) rfl (fun hc18 => ?_) (fun hc18 => ?_)
      · -- pc 18 taken
        replace hc18 : ¬ z3.toInt = (0 : Int) := hc18
        refine iconst P d3_25 (x := (0 : Int32)) rfl (n := 26) rfl ?_
        refine retZ P d3_26 (by decide) (by decide) (by decide) ?_
        refine RetI.mk ?_
        unfold own_leap
        first | exact Or.inl ⟨by omega, rfl⟩ | exact Or.inr ⟨by omega, rfl⟩
      · -- pc 18 not taken
        replace hc18 : z3.toInt = (0 : Int) := hc18
        refine iconst P d3_21 (x := (1 : Int32)) rfl (n := 22) rfl ?_
        refine goto P d3_22 (n := 26) (by decide) ?_
        refine retZ P d3_26 (by decide) (by decide) (by decide) ?_
        refine RetI.mk ?_
        unfold own_leap
        first | exact Or.inl ⟨by omega, rfl⟩ | exact Or.inr ⟨by omega, rfl⟩
theorem d5_0 : decode method_3_code 0 = .ok (.iload_n 0, 1) := by decide +kernel
theorem d5_1 : decode method_3_code 1 = .ok (.iconst 4, 1) := by decide +kernel
theorem d5_2 : decode method_3_code 2 = .ok (.irem, 1) := by decide +kernel
theorem d5_3 : decode method_3_code 3 = .ok (.ifCond .ne 22, 3) := by decide +kernel
theorem d5_6 : decode method_3_code 6 = .ok (.iload_n 0, 1) := by decide +kernel
theorem d5_7 : decode method_3_code 7 = .ok (.bipush 100, 2) := by decide +kernel
theorem d5_9 : decode method_3_code 9 = .ok (.irem, 1) := by decide +kernel
theorem d5_10 : decode method_3_code 10 = .ok (.ifCond .ne 11, 3) := by decide +kernel
theorem d5_13 : decode method_3_code 13 = .ok (.iload_n 0, 1) := by decide +kernel
theorem d5_14 : decode method_3_code 14 = .ok (.sipush 400, 3) := by decide +kernel
theorem d5_17 : decode method_3_code 17 = .ok (.irem, 1) := by decide +kernel
theorem d5_18 : decode method_3_code 18 = .ok (.ifCond .ne 7, 3) := by decide +kernel
theorem d5_21 : decode method_3_code 21 = .ok (.iconst 1, 1) := by decide +kernel
theorem d5_22 : decode method_3_code 22 = .ok (.goto 4, 3) := by decide +kernel
theorem d5_25 : decode method_3_code 25 = .ok (.iconst 0, 1) := by decide +kernel
theorem d5_26 : decode method_3_code 26 = .ok (.ireturn, 1) := by decide +kernel
theorem ef_5 (m : MethodId) (u : Int32) : entryFrame m #[(.int u)] 1 = mkF m 0 #[.val (.int u)] [] := by first | (simp [entryFrame, mkF, argsToLocals, Value.category]; done) | rfl
theorem pn_1 : plainName "com/example/sessionloom/sessionloom/FixedTimeFormatEpochDayPinLaw" = true := by first | (simp [plainName, overriddenIn]; done) | decide +kernel
abbrev rm_c_leap : Room := { frames := 0, cells := 0, slots := 0, locals := 0 }
set_option maxRecDepth 65536 in
set_option maxHeartbeats 40000000 in
theorem c_leap (l : Launch) (Z : State) (a0 : Array Value) (hw : ∀ d ∈ tables_1, d.before a0 Z = true) (u : Int32)  (h0 : Heap) (n0 : Nat) (low : n0 ≤ h0.size) (hu : 0 ≤ u.toInt) :
    Meth l Z (⟨"com/example/sessionloom/sessionloom/FixedTimeFormatEpochDayPinLaw", "leap", "(I)Z"⟩ : MethodName) method_3_code 1 (some .boolean) rm_c_leap #[(.int u)] h0 n0 (RetI (fun z => (own_leap u.toInt ∧ z.toInt = 1) ∨ (¬ own_leap u.toInt ∧ z.toInt = 0)) h0) := by
  refine Meth.of (plainFor_of_name pn_1) low ?_
  intro p e s m args below meth c T P
  refine Ends.cast (ef_5 m u) ?_
  refine iloadN P d5_0 rfl (n := 1) rfl ?_
  refine iconst P d5_1 (x := (4 : Int32)) rfl (n := 2) rfl ?_
  refine irem P d5_2 (by decide) (n := 3) rfl ?_
  refine nameI (x := (u % (4 : Int32))) (F := fun z1 => Jvm.Own.Ends p e below s rm_c_leap n0 (RetI (fun z => (own_leap u.toInt ∧ z.toInt = 1) ∨ (¬ own_leap u.toInt ∧ z.toInt = 0)) h0) T (mkF m 3 #[.val (.int u)] [(.int z1)])) ?_
  intro z1 hz1
  have tz1 : z1.toInt = u.toInt % (4 : Int) := n_irem hz1 rfl rfl (by omega)
  refine if0_ne P d5_3 (n' := 25) (n := 6) (by decide) rfl (fun hc3 => ?_) (fun hc3 => ?_)
  · -- pc 3 taken
    replace hc3 : ¬ z1.toInt = (0 : Int) := hc3
    refine iconst P d5_25 (x := (0 : Int32)) rfl (n := 26) rfl ?_
    refine retZ P d5_26 (by decide) (by decide) (by decide) ?_
    refine RetI.mk ?_
    unfold own_leap
    first | exact Or.inl ⟨by omega, rfl⟩ | exact Or.inr ⟨by omega, rfl⟩
  · -- pc 3 not taken
    replace hc3 : z1.toInt = (0 : Int) := hc3
    refine iloadN P d5_6 rfl (n := 7) rfl ?_
    refine bipush P d5_7 (x := (100 : Int32)) rfl (n := 9) rfl ?_
    refine irem P d5_9 (by decide) (n := 10) rfl ?_
    refine nameI (x := (u % (100 : Int32))) (F := fun z2 => Jvm.Own.Ends p e below s rm_c_leap n0 (RetI (fun z => (own_leap u.toInt ∧ z.toInt = 1) ∨ (¬ own_leap u.toInt ∧ z.toInt = 0)) h0) T (mkF m 10 #[.val (.int u)] [(.int z2)])) ?_
    intro z2 hz2
    have tz2 : z2.toInt = u.toInt % (100 : Int) := n_irem hz2 rfl rfl (by omega)
    refine if0_ne P d5_10 (n' := 21) (n := 13) (by decide) rfl (fun hc10 => ?_) (fun hc10 => ?_)
    · -- pc 10 taken
      replace hc10 : ¬ z2.toInt = (0 : Int) := hc10
      refine iconst P d5_21 (x := (1 : Int32)) rfl (n := 22) rfl ?_
      refine goto P d5_22 (n := 26) (by decide) ?_
      refine retZ P d5_26 (by decide) (by decide) (by decide) ?_
      refine RetI.mk ?_
      unfold own_leap
      first | exact Or.inl ⟨by omega, rfl⟩ | exact Or.inr ⟨by omega, rfl⟩
    · -- pc 10 not taken
      replace hc10 : z2.toInt = (0 : Int) := hc10
      refine iloadN P d5_13 rfl (n := 14) rfl ?_
      refine sipush P d5_14 (x := (400 : Int32)) rfl (n := 17) rfl ?_
      refine irem P d5_17 (by decide) (n := 18) rfl ?_
      refine nameI (x := (u % (400 : Int32))) (F := fun z3 => Jvm.Own.Ends p e below s rm_c_leap n0 (RetI (fun z => (own_leap u.toInt ∧ z.toInt = 1) ∨ (¬ own_leap u.toInt ∧ z.toInt = 0)) h0) T (mkF m 18 #[.val (.int u)] [(.int z3)])) ?_
      intro z3 hz3
      have tz3 : z3.toInt = u.toInt % (400 : Int) := n_irem hz3 rfl rfl (by omega)
      refine if0_ne P d5_18 (n' := 25) (n := 21) (by decide) rfl (fun hc18 => ?_) (fun hc18 => ?_)
      · -- pc 18 taken
        replace hc18 : ¬ z3.toInt = (0 : Int) := hc18
        refine iconst P d5_25 (x := (0 : Int32)) rfl (n := 26) rfl ?_
        refine retZ P d5_26 (by decide) (by decide) (by decide) ?_
        refine RetI.mk ?_
        unfold own_leap
        first | exact Or.inl ⟨by omega, rfl⟩ | exact Or.inr ⟨by omega, rfl⟩
      · -- pc 18 not taken
        replace hc18 : z3.toInt = (0 : Int) := hc18
        refine iconst P d5_21 (x := (1 : Int32)) rfl (n := 22) rfl ?_
        refine goto P d5_22 (n := 26) (by decide) ?_
        refine retZ P d5_26 (by decide) (by decide) (by decide) ?_
        refine RetI.mk ?_
        unfold own_leap
        first | exact Or.inl ⟨by omega, rfl⟩ | exact Or.inr ⟨by omega, rfl⟩
theorem d1_0 : decode method_4_code 0 = .ok (.iload_n 1, 1) := by decide +kernel
theorem d1_1 : decode method_4_code 1 = .ok (.iconst 2, 1) := by decide +kernel
theorem d1_2 : decode method_4_code 2 = .ok (.if_icmp .ne 18, 3) := by decide +kernel
theorem d1_5 : decode method_4_code 5 = .ok (.iload_n 0, 1) := by decide +kernel
theorem d1_6 : decode method_4_code 6 = .ok (.invokestatic 25, 3) := by decide +kernel
theorem d1_9 : decode method_4_code 9 = .ok (.ifCond .eq 8, 3) := by decide +kernel
theorem d1_12 : decode method_4_code 12 = .ok (.bipush 29, 2) := by decide +kernel
theorem d1_14 : decode method_4_code 14 = .ok (.goto 5, 3) := by decide +kernel
theorem d1_17 : decode method_4_code 17 = .ok (.bipush 28, 2) := by decide +kernel
theorem d1_19 : decode method_4_code 19 = .ok (.ireturn, 1) := by decide +kernel
theorem d1_20 : decode method_4_code 20 = .ok (.iload_n 1, 1) := by decide +kernel
theorem d1_21 : decode method_4_code 21 = .ok (.iconst 4, 1) := by decide +kernel
theorem d1_22 : decode method_4_code 22 = .ok (.if_icmp .eq 21, 3) := by decide +kernel
theorem d1_25 : decode method_4_code 25 = .ok (.iload_n 1, 1) := by decide +kernel
theorem d1_26 : decode method_4_code 26 = .ok (.bipush 6, 2) := by decide +kernel
theorem d1_28 : decode method_4_code 28 = .ok (.if_icmp .eq 15, 3) := by decide +kernel
theorem d1_31 : decode method_4_code 31 = .ok (.iload_n 1, 1) := by decide +kernel
theorem d1_32 : decode method_4_code 32 = .ok (.bipush 9, 2) := by decide +kernel
theorem d1_34 : decode method_4_code 34 = .ok (.if_icmp .eq 9, 3) := by decide +kernel
theorem d1_37 : decode method_4_code 37 = .ok (.iload_n 1, 1) := by decide +kernel
theorem d1_38 : decode method_4_code 38 = .ok (.bipush 11, 2) := by decide +kernel
theorem d1_40 : decode method_4_code 40 = .ok (.if_icmp .ne 6, 3) := by decide +kernel
theorem d1_43 : decode method_4_code 43 = .ok (.bipush 30, 2) := by decide +kernel
theorem d1_45 : decode method_4_code 45 = .ok (.ireturn, 1) := by decide +kernel
theorem d1_46 : decode method_4_code 46 = .ok (.bipush 31, 2) := by decide +kernel
theorem d1_48 : decode method_4_code 48 = .ok (.ireturn, 1) := by decide +kernel
theorem ef_1 (m : MethodId) (u : Int32) (w : Int32) : entryFrame m #[(.int u), (.int w)] 2 = mkF m 0 #[.val (.int u), .val (.int w)] [] := by first | (simp [entryFrame, mkF, argsToLocals, Value.category]; done) | rfl
theorem pd_0 : parseMethodDescriptor "(I)Z" = some ⟨[.int], some .boolean⟩ := by decide +kernel
abbrev rm_c_days : Room := { frames := 1, cells := 0, slots := 0, locals := 12 }
set_option maxRecDepth 65536 in
set_option maxHeartbeats 40000000 in
theorem c_days (l : Launch) (Z : State) (a0 : Array Value) (hw : ∀ d ∈ tables_1, d.before a0 Z = true) (u : Int32) (w : Int32)  (h0 : Heap) (n0 : Nat) (low : n0 ≤ h0.size) (hu : 0 ≤ u.toInt) :
    Meth l Z (⟨"com/example/sessionloom/sessionloom/FixedTimeFormatEpochDayPinLaw", "daysIn", "(II)I"⟩ : MethodName) method_4_code 2 (some .int) rm_c_days #[(.int u), (.int w)] h0 n0 (RetI (fun z => 28 ≤ z.toInt ∧ z.toInt ≤ 31) h0) := by
  refine Meth.of (plainFor_of_name pn_1) low ?_
  intro p e s m args below meth c T P
  refine Ends.cast (ef_1 m u w) ?_
  refine iloadN P d1_0 rfl (n := 1) rfl ?_
  refine iconst P d1_1 (x := (2 : Int32)) rfl (n := 2) rfl ?_
  refine icmp_ne P d1_2 (n' := 20) (n := 5) (by decide) rfl (fun hc2 => ?_) (fun hc2 => ?_)
  · -- pc 2 taken
    replace hc2 : ¬ w.toInt = (2 : Int) := hc2
    refine iloadN P d1_20 rfl (n := 21) rfl ?_
    refine iconst P d1_21 (x := (4 : Int32)) rfl (n := 22) rfl ?_
    refine icmp_eq P d1_22 (n' := 43) (n := 25) (by decide) rfl (fun hc22 => ?_) (fun hc22 => ?_)
    · -- pc 22 taken
      replace hc22 : w.toInt = (4 : Int) := hc22
      refine bipush P d1_43 (x := (30 : Int32)) rfl (n := 45) rfl ?_
      refine retI P d1_45 (by decide) (by decide) ?_
      exact RetI.mk (by decide)
    · -- pc 22 not taken
      replace hc22 : ¬ w.toInt = (4 : Int) := hc22
      refine iloadN P d1_25 rfl (n := 26) rfl ?_
      refine bipush P d1_26 (x := (6 : Int32)) rfl (n := 28) rfl ?_
      refine icmp_eq P d1_28 (n' := 43) (n := 31) (by decide) rfl (fun hc28 => ?_) (fun hc28 => ?_)
      · -- pc 28 taken
        replace hc28 : w.toInt = (6 : Int) := hc28
        refine bipush P d1_43 (x := (30 : Int32)) rfl (n := 45) rfl ?_
        refine retI P d1_45 (by decide) (by decide) ?_
        exact RetI.mk (by decide)
      · -- pc 28 not taken
        replace hc28 : ¬ w.toInt = (6 : Int) := hc28
        refine iloadN P d1_31 rfl (n := 32) rfl ?_
        refine bipush P d1_32 (x := (9 : Int32)) rfl (n := 34) rfl ?_
        refine icmp_eq P d1_34 (n' := 43) (n := 37) (by decide) rfl (fun hc34 => ?_) (fun hc34 => ?_)
        · -- pc 34 taken
          replace hc34 : w.toInt = (9 : Int) := hc34
          refine bipush P d1_43 (x := (30 : Int32)) rfl (n := 45) rfl ?_
          refine retI P d1_45 (by decide) (by decide) ?_
          exact RetI.mk (by decide)
        · -- pc 34 not taken
          replace hc34 : ¬ w.toInt = (9 : Int) := hc34
          refine iloadN P d1_37 rfl (n := 38) rfl ?_
          refine bipush P d1_38 (x := (11 : Int32)) rfl (n := 40) rfl ?_
          refine icmp_ne P d1_40 (n' := 46) (n := 43) (by decide) rfl (fun hc40 => ?_) (fun hc40 => ?_)
          · -- pc 40 taken
            replace hc40 : ¬ w.toInt = (11 : Int) := hc40
            refine bipush P d1_46 (x := (31 : Int32)) rfl (n := 48) rfl ?_
            refine retI P d1_48 (by decide) (by decide) ?_
            exact RetI.mk (by decide)
          · -- pc 40 not taken
            replace hc40 : w.toInt = (11 : Int) := hc40
            refine bipush P d1_43 (x := (30 : Int32)) rfl (n := 45) rfl ?_
            refine retI P d1_45 (by decide) (by decide) ?_
            exact RetI.mk (by decide)
  · -- pc 2 not taken
    replace hc2 : w.toInt = (2 : Int) := hc2
    refine iloadN P d1_5 rfl (n := 6) rfl ?_
    refine callS P d1_6 (argsL := [(.int u)]) (rest := []) (c_leap l Z a0 hw u h0 n0 P.low (by omega)) (hw _ (List.mem_of_getElem? (i := 31) rfl)) (hw _ (List.mem_of_getElem? (i := 32) rfl)) (hw _ (List.mem_of_getElem? (i := 3) rfl)) (hw _ (List.mem_of_getElem? (i := 33) rfl)) (by decide) pd_0 rfl rfl rfl ⟨by decide, Nat.le_of_ble_eq_true rfl, by decide, by decide⟩ (n := 9) rfl (RetI.on ?_)
    intro T r1 P hr1
    refine if0_eq P d1_9 (n' := 17) (n := 12) (by decide) rfl (fun hc9 => ?_) (fun hc9 => ?_)
    · -- pc 9 taken
      replace hc9 : r1.toInt = (0 : Int) := hc9
      refine bipush P d1_17 (x := (28 : Int32)) rfl (n := 19) rfl ?_
      refine retI P d1_19 (by decide) (by decide) ?_
      exact RetI.mk (by decide)
    · -- pc 9 not taken
      replace hc9 : ¬ r1.toInt = (0 : Int) := hc9
      refine bipush P d1_12 (x := (29 : Int32)) rfl (n := 14) rfl ?_
      refine goto P d1_14 (n := 19) (by decide) ?_
      refine retI P d1_19 (by decide) (by decide) ?_
      exact RetI.mk (by decide)
theorem d2_0 : decode prog_10_method_16_code 0 = .ok (.iload_n 0, 1) := by decide +kernel
theorem d2_1 : decode prog_10_method_16_code 1 = .ok (.i2l, 1) := by decide +kernel
theorem d2_2 : decode prog_10_method_16_code 2 = .ok (.lconst 1, 1) := by decide +kernel
theorem d2_3 : decode prog_10_method_16_code 3 = .ok (.lsub, 1) := by decide +kernel
theorem d2_4 : decode prog_10_method_16_code 4 = .ok (.lstore_n 3, 1) := by decide +kernel
theorem d2_5 : decode prog_10_method_16_code 5 = .ok (.ldc2_w 109, 3) := by decide +kernel
theorem d2_8 : decode prog_10_method_16_code 8 = .ok (.lload_n 3, 1) := by decide +kernel
theorem d2_9 : decode prog_10_method_16_code 9 = .ok (.lmul, 1) := by decide +kernel
theorem d2_10 : decode prog_10_method_16_code 10 = .ok (.lload_n 3, 1) := by decide +kernel
theorem d2_11 : decode prog_10_method_16_code 11 = .ok (.ldc2_w 111, 3) := by decide +kernel
theorem d2_14 : decode prog_10_method_16_code 14 = .ok (.ldiv, 1) := by decide +kernel
theorem d2_15 : decode prog_10_method_16_code 15 = .ok (.ladd, 1) := by decide +kernel
theorem d2_16 : decode prog_10_method_16_code 16 = .ok (.lload_n 3, 1) := by decide +kernel
theorem d2_17 : decode prog_10_method_16_code 17 = .ok (.ldc2_w 113, 3) := by decide +kernel
theorem d2_20 : decode prog_10_method_16_code 20 = .ok (.ldiv, 1) := by decide +kernel
theorem d2_21 : decode prog_10_method_16_code 21 = .ok (.lsub, 1) := by decide +kernel
theorem d2_22 : decode prog_10_method_16_code 22 = .ok (.lload_n 3, 1) := by decide +kernel
theorem d2_23 : decode prog_10_method_16_code 23 = .ok (.ldc2_w 115, 3) := by decide +kernel
theorem d2_26 : decode prog_10_method_16_code 26 = .ok (.ldiv, 1) := by decide +kernel
theorem d2_27 : decode prog_10_method_16_code 27 = .ok (.ladd, 1) := by decide +kernel
theorem d2_28 : decode prog_10_method_16_code 28 = .ok (.lstore 5, 2) := by decide +kernel
theorem d2_30 : decode prog_10_method_16_code 30 = .ok (.iload_n 1, 1) := by decide +kernel
theorem d2_31 : decode prog_10_method_16_code 31 = .ok (.iconst 2, 1) := by decide +kernel
theorem d2_32 : decode prog_10_method_16_code 32 = .ok (.if_icmp .le 14, 3) := by decide +kernel
theorem d2_35 : decode prog_10_method_16_code 35 = .ok (.iload_n 0, 1) := by decide +kernel
theorem d2_36 : decode prog_10_method_16_code 36 = .ok (.invokestatic 117, 3) := by decide +kernel
theorem d2_39 : decode prog_10_method_16_code 39 = .ok (.ifCond .eq 7, 3) := by decide +kernel
theorem d2_42 : decode prog_10_method_16_code 42 = .ok (.iconst 1, 1) := by decide +kernel
theorem d2_43 : decode prog_10_method_16_code 43 = .ok (.goto 4, 3) := by decide +kernel
theorem d2_46 : decode prog_10_method_16_code 46 = .ok (.iconst 0, 1) := by decide +kernel
theorem d2_47 : decode prog_10_method_16_code 47 = .ok (.istore 7, 2) := by decide +kernel
theorem d2_49 : decode prog_10_method_16_code 49 = .ok (.lload 5, 2) := by decide +kernel
theorem d2_51 : decode prog_10_method_16_code 51 = .ok (.getstatic 120, 3) := by decide +kernel
theorem d2_54 : decode prog_10_method_16_code 54 = .ok (.iload_n 1, 1) := by decide +kernel
theorem d2_55 : decode prog_10_method_16_code 55 = .ok (.iconst 1, 1) := by decide +kernel
theorem d2_56 : decode prog_10_method_16_code 56 = .ok (.isub, 1) := by decide +kernel
theorem d2_57 : decode prog_10_method_16_code 57 = .ok (.iaload, 1) := by decide +kernel
theorem d2_58 : decode prog_10_method_16_code 58 = .ok (.i2l, 1) := by decide +kernel
theorem d2_59 : decode prog_10_method_16_code 59 = .ok (.ladd, 1) := by decide +kernel
theorem d2_60 : decode prog_10_method_16_code 60 = .ok (.iload 7, 2) := by decide +kernel
theorem d2_62 : decode prog_10_method_16_code 62 = .ok (.i2l, 1) := by decide +kernel
theorem d2_63 : decode prog_10_method_16_code 63 = .ok (.ladd, 1) := by decide +kernel
theorem d2_64 : decode prog_10_method_16_code 64 = .ok (.iload_n 2, 1) := by decide +kernel
theorem d2_65 : decode prog_10_method_16_code 65 = .ok (.i2l, 1) := by decide +kernel
theorem d2_66 : decode prog_10_method_16_code 66 = .ok (.ladd, 1) := by decide +kernel
theorem d2_67 : decode prog_10_method_16_code 67 = .ok (.lconst 1, 1) := by decide +kernel
theorem d2_68 : decode prog_10_method_16_code 68 = .ok (.lsub, 1) := by decide +kernel
theorem d2_69 : decode prog_10_method_16_code 69 = .ok (.ldc2_w 123, 3) := by decide +kernel
theorem d2_72 : decode prog_10_method_16_code 72 = .ok (.lsub, 1) := by decide +kernel
theorem d2_73 : decode prog_10_method_16_code 73 = .ok (.lreturn, 1) := by decide +kernel
theorem ef_2 (m : MethodId) (u : Int32) (w : Int32) (d : Int32) : entryFrame m #[(.int u), (.int w), (.int d)] 8 = mkF m 0 #[.val (.int u), .val (.int w), .val (.int d), .unset, .unset, .unset, .unset, .unset] [] := by first | (simp [entryFrame, mkF, argsToLocals, Value.category]; done) | rfl
abbrev rm_c_epoch : Room := { frames := 1, cells := 0, slots := 0, locals := 12 }
set_option maxRecDepth 65536 in
set_option maxHeartbeats 40000000 in
theorem c_epoch (l : Launch) (Z : State) (a0 : Array Value) (hw : ∀ d ∈ tables_1, d.before a0 Z = true) (u : Int32) (w : Int32) (d : Int32) (da : Addr) (h0 : Heap) (n0 : Nat) (low : n0 ≤ h0.size) (S_d : Sta Z h0 "com/example/sessionloom/sessionloom/FixedTimeFormat" "DAYS_BEFORE_MONTH" "[I" (.ref da)) (A_d : ARI Z h0 da .int 13 own_days) (hy : 1 ≤ u.toInt) (hm : 1 ≤ w.toInt ∧ w.toInt ≤ 12) (hd : 1 ≤ d.toInt ∧ d.toInt ≤ 31) :
    Meth l Z (⟨"com/example/sessionloom/sessionloom/FixedTimeFormat", "epochDay", "(III)J"⟩ : MethodName) prog_10_method_16_code 8 (some .long) rm_c_epoch #[(.int u), (.int w), (.int d)] h0 n0 (RetJ (fun z => ∃ e : Int, ((2 < w.toInt ∧ own_leap u.toInt ∧ e = 1) ∨ (¬ (2 < w.toInt ∧ own_leap u.toInt) ∧ e = 0)) ∧ z.toInt = own_ep u.toInt (own_days (w.toInt - 1).toNat).toInt e d.toInt) h0) := by
  refine Meth.of (plainFor_of_name pn_0) low ?_
  intro p e s m args below meth c T P
  refine Ends.cast (ef_2 m u w d) ?_
  have hdd := own_days_le (w.toInt - 1).toNat (by omega)
  have hu := rng32 u
  refine iloadN P d2_0 rfl (n := 1) rfl ?_
  refine i2l P d2_1 (n := 2) rfl ?_
  refine nameI (x := (u.toInt64)) (F := fun z1 => Jvm.Own.Ends p e below s rm_c_epoch n0 (RetJ (fun z => ∃ e : Int, ((2 < w.toInt ∧ own_leap u.toInt ∧ e = 1) ∨ (¬ (2 < w.toInt ∧ own_leap u.toInt) ∧ e = 0)) ∧ z.toInt = own_ep u.toInt (own_days (w.toInt - 1).toNat).toInt e d.toInt) h0) T (mkF m 2 #[.val (.int u), .val (.int w), .val (.int d), .unset, .unset, .unset, .unset, .unset] [(.long z1)])) ?_
  intro z1 hz1
  have tz1 : z1.toInt = u.toInt := n_i2l hz1 rfl
  refine lconst P d2_2 (x := (1 : Int64)) rfl (n := 3) rfl ?_
  refine lsub P d2_3 (n := 4) rfl ?_
  refine nameI (x := (z1 - (1 : Int64))) (F := fun z2 => Jvm.Own.Ends p e below s rm_c_epoch n0 (RetJ (fun z => ∃ e : Int, ((2 < w.toInt ∧ own_leap u.toInt ∧ e = 1) ∨ (¬ (2 < w.toInt ∧ own_leap u.toInt) ∧ e = 0)) ∧ z.toInt = own_ep u.toInt (own_days (w.toInt - 1).toNat).toInt e d.toInt) h0) T (mkF m 4 #[.val (.int u), .val (.int w), .val (.int d), .unset, .unset, .unset, .unset, .unset] [(.long z2)])) ?_
  intro z2 hz2
  have tz2 : z2.toInt = z1.toInt - (1 : Int) := n_lsub hz2 rfl rfl (by omega)
  refine lstoreN P d2_4 (l' := #[.val (.int u), .val (.int w), .val (.int d), .val (.long z2), .second, .unset, .unset, .unset]) rfl (n := 5) rfl ?_
  refine ldc2J P d2_5 (hw _ (List.mem_of_getElem? (i := 9) rfl)) (n := 8) rfl ?_
  refine lloadN P d2_8 rfl (n := 9) rfl ?_
  refine lmul P d2_9 (n := 10) rfl ?_
  refine nameI (x := ((365 : Int64) * z2)) (F := fun z3 => Jvm.Own.Ends p e below s rm_c_epoch n0 (RetJ (fun z => ∃ e : Int, ((2 < w.toInt ∧ own_leap u.toInt ∧ e = 1) ∨ (¬ (2 < w.toInt ∧ own_leap u.toInt) ∧ e = 0)) ∧ z.toInt = own_ep u.toInt (own_days (w.toInt - 1).toNat).toInt e d.toInt) h0) T (mkF m 10 #[.val (.int u), .val (.int w), .val (.int d), .val (.long z2), .second, .unset, .unset, .unset] [(.long z3)])) ?_
  intro z3 hz3
  have tz3 : z3.toInt = (365 : Int) * z2.toInt := n_lmul hz3 rfl rfl (by omega)
  refine lloadN P d2_10 rfl (n := 11) rfl ?_
  refine ldc2J P d2_11 (hw _ (List.mem_of_getElem? (i := 10) rfl)) (n := 14) rfl ?_
  refine ldiv P d2_14 (by decide) (n := 15) rfl ?_
  refine nameI (x := (z2 / (4 : Int64))) (F := fun z4 => Jvm.Own.Ends p e below s rm_c_epoch n0 (RetJ (fun z => ∃ e : Int, ((2 < w.toInt ∧ own_leap u.toInt ∧ e = 1) ∨ (¬ (2 < w.toInt ∧ own_leap u.toInt) ∧ e = 0)) ∧ z.toInt = own_ep u.toInt (own_days (w.toInt - 1).toNat).toInt e d.toInt) h0) T (mkF m 15 #[.val (.int u), .val (.int w), .val (.int d), .val (.long z2), .second, .unset, .unset, .unset] [(.long z4), (.long z3)])) ?_
  intro z4 hz4
  have tz4 : z4.toInt = z2.toInt / (4 : Int) := n_ldiv hz4 rfl rfl (by omega)
  refine ladd P d2_15 (n := 16) rfl ?_
  refine nameI (x := (z3 + z4)) (F := fun z5 => Jvm.Own.Ends p e below s rm_c_epoch n0 (RetJ (fun z => ∃ e : Int, ((2 < w.toInt ∧ own_leap u.toInt ∧ e = 1) ∨ (¬ (2 < w.toInt ∧ own_leap u.toInt) ∧ e = 0)) ∧ z.toInt = own_ep u.toInt (own_days (w.toInt - 1).toNat).toInt e d.toInt) h0) T (mkF m 16 #[.val (.int u), .val (.int w), .val (.int d), .val (.long z2), .second, .unset, .unset, .unset] [(.long z5)])) ?_
  intro z5 hz5
  have tz5 : z5.toInt = z3.toInt + z4.toInt := n_ladd hz5 rfl rfl (by omega)
  refine lloadN P d2_16 rfl (n := 17) rfl ?_
  refine ldc2J P d2_17 (hw _ (List.mem_of_getElem? (i := 11) rfl)) (n := 20) rfl ?_
  refine ldiv P d2_20 (by decide) (n := 21) rfl ?_
  refine nameI (x := (z2 / (100 : Int64))) (F := fun z6 => Jvm.Own.Ends p e below s rm_c_epoch n0 (RetJ (fun z => ∃ e : Int, ((2 < w.toInt ∧ own_leap u.toInt ∧ e = 1) ∨ (¬ (2 < w.toInt ∧ own_leap u.toInt) ∧ e = 0)) ∧ z.toInt = own_ep u.toInt (own_days (w.toInt - 1).toNat).toInt e d.toInt) h0) T (mkF m 21 #[.val (.int u), .val (.int w), .val (.int d), .val (.long z2), .second, .unset, .unset, .unset] [(.long z6), (.long z5)])) ?_
  intro z6 hz6
  have tz6 : z6.toInt = z2.toInt / (100 : Int) := n_ldiv hz6 rfl rfl (by omega)
  refine lsub P d2_21 (n := 22) rfl ?_
  refine nameI (x := (z5 - z6)) (F := fun z7 => Jvm.Own.Ends p e below s rm_c_epoch n0 (RetJ (fun z => ∃ e : Int, ((2 < w.toInt ∧ own_leap u.toInt ∧ e = 1) ∨ (¬ (2 < w.toInt ∧ own_leap u.toInt) ∧ e = 0)) ∧ z.toInt = own_ep u.toInt (own_days (w.toInt - 1).toNat).toInt e d.toInt) h0) T (mkF m 22 #[.val (.int u), .val (.int w), .val (.int d), .val (.long z2), .second, .unset, .unset, .unset] [(.long z7)])) ?_
  intro z7 hz7
  have tz7 : z7.toInt = z5.toInt - z6.toInt := n_lsub hz7 rfl rfl (by omega)
  refine lloadN P d2_22 rfl (n := 23) rfl ?_
  refine ldc2J P d2_23 (hw _ (List.mem_of_getElem? (i := 12) rfl)) (n := 26) rfl ?_
  refine ldiv P d2_26 (by decide) (n := 27) rfl ?_
  refine nameI (x := (z2 / (400 : Int64))) (F := fun z8 => Jvm.Own.Ends p e below s rm_c_epoch n0 (RetJ (fun z => ∃ e : Int, ((2 < w.toInt ∧ own_leap u.toInt ∧ e = 1) ∨ (¬ (2 < w.toInt ∧ own_leap u.toInt) ∧ e = 0)) ∧ z.toInt = own_ep u.toInt (own_days (w.toInt - 1).toNat).toInt e d.toInt) h0) T (mkF m 27 #[.val (.int u), .val (.int w), .val (.int d), .val (.long z2), .second, .unset, .unset, .unset] [(.long z8), (.long z7)])) ?_
  intro z8 hz8
  have tz8 : z8.toInt = z2.toInt / (400 : Int) := n_ldiv hz8 rfl rfl (by omega)
  refine ladd P d2_27 (n := 28) rfl ?_
  refine nameI (x := (z7 + z8)) (F := fun z9 => Jvm.Own.Ends p e below s rm_c_epoch n0 (RetJ (fun z => ∃ e : Int, ((2 < w.toInt ∧ own_leap u.toInt ∧ e = 1) ∨ (¬ (2 < w.toInt ∧ own_leap u.toInt) ∧ e = 0)) ∧ z.toInt = own_ep u.toInt (own_days (w.toInt - 1).toNat).toInt e d.toInt) h0) T (mkF m 28 #[.val (.int u), .val (.int w), .val (.int d), .val (.long z2), .second, .unset, .unset, .unset] [(.long z9)])) ?_
  intro z9 hz9
  have tz9 : z9.toInt = z7.toInt + z8.toInt := n_ladd hz9 rfl rfl (by omega)
  refine lstore P d2_28 (l' := #[.val (.int u), .val (.int w), .val (.int d), .val (.long z2), .second, .val (.long z9), .second, .unset]) rfl (n := 30) rfl ?_
  refine iloadN P d2_30 rfl (n := 31) rfl ?_
  refine iconst P d2_31 (x := (2 : Int32)) rfl (n := 32) rfl ?_
  refine icmp_le P d2_32 (n' := 46) (n := 35) (by decide) rfl (fun hc32 => ?_) (fun hc32 => ?_)
  · -- pc 32 taken
    replace hc32 : w.toInt ≤ (2 : Int) := hc32
    refine iconst P d2_46 (x := (0 : Int32)) rfl (n := 47) rfl ?_
    refine istore P d2_47 (l' := #[.val (.int u), .val (.int w), .val (.int d), .val (.long z2), .second, .val (.long z9), .second, .val (.int (0 : Int32))]) rfl (n := 49) rfl ?_
    refine lload P d2_49 rfl (n := 51) rfl ?_
    refine getS P d2_51 (hw _ (List.mem_of_getElem? (i := 16) rfl)) S_d (n := 54) rfl ?_
    intro T P
    refine iloadN P d2_54 rfl (n := 55) rfl ?_
    refine iconst P d2_55 (x := (1 : Int32)) rfl (n := 56) rfl ?_
    refine isub P d2_56 (n := 57) rfl ?_
    refine nameI (x := (w - (1 : Int32))) (F := fun z10 => Jvm.Own.Ends p e below s rm_c_epoch n0 (RetJ (fun z => ∃ e : Int, ((2 < w.toInt ∧ own_leap u.toInt ∧ e = 1) ∨ (¬ (2 < w.toInt ∧ own_leap u.toInt) ∧ e = 0)) ∧ z.toInt = own_ep u.toInt (own_days (w.toInt - 1).toNat).toInt e d.toInt) h0) T (mkF m 57 #[.val (.int u), .val (.int w), .val (.int d), .val (.long z2), .second, .val (.long z9), .second, .val (.int (0 : Int32))] [(.int z10), (.ref da), (.long z9)])) ?_
    intro z10 hz10
    have tz10 : z10.toInt = w.toInt - (1 : Int) := n_isub hz10 rfl rfl (by omega)
    refine ialoadI P d2_57 A_d (u := (w.toInt - 1).toNat) ⟨by omega, by omega⟩ (n := 58) rfl ?_
    refine i2l P d2_58 (n := 59) rfl ?_
    refine nameI (x := ((own_days (w.toInt - 1).toNat).toInt64)) (F := fun z11 => Jvm.Own.Ends p e below s rm_c_epoch n0 (RetJ (fun z => ∃ e : Int, ((2 < w.toInt ∧ own_leap u.toInt ∧ e = 1) ∨ (¬ (2 < w.toInt ∧ own_leap u.toInt) ∧ e = 0)) ∧ z.toInt = own_ep u.toInt (own_days (w.toInt - 1).toNat).toInt e d.toInt) h0) T (mkF m 59 #[.val (.int u), .val (.int w), .val (.int d), .val (.long z2), .second, .val (.long z9), .second, .val (.int (0 : Int32))] [(.long z11), (.long z9)])) ?_
    intro z11 hz11
    have tz11 : z11.toInt = (own_days (w.toInt - 1).toNat).toInt := n_i2l hz11 rfl
    refine ladd P d2_59 (n := 60) rfl ?_
    refine nameI (x := (z9 + z11)) (F := fun z12 => Jvm.Own.Ends p e below s rm_c_epoch n0 (RetJ (fun z => ∃ e : Int, ((2 < w.toInt ∧ own_leap u.toInt ∧ e = 1) ∨ (¬ (2 < w.toInt ∧ own_leap u.toInt) ∧ e = 0)) ∧ z.toInt = own_ep u.toInt (own_days (w.toInt - 1).toNat).toInt e d.toInt) h0) T (mkF m 60 #[.val (.int u), .val (.int w), .val (.int d), .val (.long z2), .second, .val (.long z9), .second, .val (.int (0 : Int32))] [(.long z12)])) ?_
    intro z12 hz12
    have tz12 : z12.toInt = z9.toInt + z11.toInt := n_ladd hz12 rfl rfl (by omega)
    refine iload P d2_60 rfl (n := 62) rfl ?_
    refine i2l P d2_62 (n := 63) rfl ?_
    refine nameI (x := ((0 : Int32).toInt64)) (F := fun z13 => Jvm.Own.Ends p e below s rm_c_epoch n0 (RetJ (fun z => ∃ e : Int, ((2 < w.toInt ∧ own_leap u.toInt ∧ e = 1) ∨ (¬ (2 < w.toInt ∧ own_leap u.toInt) ∧ e = 0)) ∧ z.toInt = own_ep u.toInt (own_days (w.toInt - 1).toNat).toInt e d.toInt) h0) T (mkF m 63 #[.val (.int u), .val (.int w), .val (.int d), .val (.long z2), .second, .val (.long z9), .second, .val (.int (0 : Int32))] [(.long z13), (.long z12)])) ?_
    intro z13 hz13
    have tz13 : z13.toInt = (0 : Int) := n_i2l hz13 rfl
    refine ladd P d2_63 (n := 64) rfl ?_
    refine nameI (x := (z12 + z13)) (F := fun z14 => Jvm.Own.Ends p e below s rm_c_epoch n0 (RetJ (fun z => ∃ e : Int, ((2 < w.toInt ∧ own_leap u.toInt ∧ e = 1) ∨ (¬ (2 < w.toInt ∧ own_leap u.toInt) ∧ e = 0)) ∧ z.toInt = own_ep u.toInt (own_days (w.toInt - 1).toNat).toInt e d.toInt) h0) T (mkF m 64 #[.val (.int u), .val (.int w), .val (.int d), .val (.long z2), .second, .val (.long z9), .second, .val (.int (0 : Int32))] [(.long z14)])) ?_
    intro z14 hz14
    have tz14 : z14.toInt = z12.toInt + z13.toInt := n_ladd hz14 rfl rfl (by omega)
    refine iloadN P d2_64 rfl (n := 65) rfl ?_
    refine i2l P d2_65 (n := 66) rfl ?_
    refine nameI (x := (d.toInt64)) (F := fun z15 => Jvm.Own.Ends p e below s rm_c_epoch n0 (RetJ (fun z => ∃ e : Int, ((2 < w.toInt ∧ own_leap u.toInt ∧ e = 1) ∨ (¬ (2 < w.toInt ∧ own_leap u.toInt) ∧ e = 0)) ∧ z.toInt = own_ep u.toInt (own_days (w.toInt - 1).toNat).toInt e d.toInt) h0) T (mkF m 66 #[.val (.int u), .val (.int w), .val (.int d), .val (.long z2), .second, .val (.long z9), .second, .val (.int (0 : Int32))] [(.long z15), (.long z14)])) ?_
    intro z15 hz15
    have tz15 : z15.toInt = d.toInt := n_i2l hz15 rfl
    refine ladd P d2_66 (n := 67) rfl ?_
    refine nameI (x := (z14 + z15)) (F := fun z16 => Jvm.Own.Ends p e below s rm_c_epoch n0 (RetJ (fun z => ∃ e : Int, ((2 < w.toInt ∧ own_leap u.toInt ∧ e = 1) ∨ (¬ (2 < w.toInt ∧ own_leap u.toInt) ∧ e = 0)) ∧ z.toInt = own_ep u.toInt (own_days (w.toInt - 1).toNat).toInt e d.toInt) h0) T (mkF m 67 #[.val (.int u), .val (.int w), .val (.int d), .val (.long z2), .second, .val (.long z9), .second, .val (.int (0 : Int32))] [(.long z16)])) ?_
    intro z16 hz16
    have tz16 : z16.toInt = z14.toInt + z15.toInt := n_ladd hz16 rfl rfl (by omega)
    refine lconst P d2_67 (x := (1 : Int64)) rfl (n := 68) rfl ?_
    refine lsub P d2_68 (n := 69) rfl ?_
    refine nameI (x := (z16 - (1 : Int64))) (F := fun z17 => Jvm.Own.Ends p e below s rm_c_epoch n0 (RetJ (fun z => ∃ e : Int, ((2 < w.toInt ∧ own_leap u.toInt ∧ e = 1) ∨ (¬ (2 < w.toInt ∧ own_leap u.toInt) ∧ e = 0)) ∧ z.toInt = own_ep u.toInt (own_days (w.toInt - 1).toNat).toInt e d.toInt) h0) T (mkF m 69 #[.val (.int u), .val (.int w), .val (.int d), .val (.long z2), .second, .val (.long z9), .second, .val (.int (0 : Int32))] [(.long z17)])) ?_
    intro z17 hz17
    have tz17 : z17.toInt = z16.toInt - (1 : Int) := n_lsub hz17 rfl rfl (by omega)
    refine ldc2J P d2_69 (hw _ (List.mem_of_getElem? (i := 18) rfl)) (n := 72) rfl ?_
    refine lsub P d2_72 (n := 73) rfl ?_
    refine nameI (x := (z17 - (719162 : Int64))) (F := fun z18 => Jvm.Own.Ends p e below s rm_c_epoch n0 (RetJ (fun z => ∃ e : Int, ((2 < w.toInt ∧ own_leap u.toInt ∧ e = 1) ∨ (¬ (2 < w.toInt ∧ own_leap u.toInt) ∧ e = 0)) ∧ z.toInt = own_ep u.toInt (own_days (w.toInt - 1).toNat).toInt e d.toInt) h0) T (mkF m 73 #[.val (.int u), .val (.int w), .val (.int d), .val (.long z2), .second, .val (.long z9), .second, .val (.int (0 : Int32))] [(.long z18)])) ?_
    intro z18 hz18
    have tz18 : z18.toInt = z17.toInt - (719162 : Int) := n_lsub hz18 rfl rfl (by omega)
    refine retL P d2_73 (by decide) (by decide) ?_
    refine RetJ.mk ⟨0, ?_, ?_⟩
    · first | exact Or.inl ⟨by omega, by simp_all, rfl⟩ | exact Or.inr ⟨by omega, rfl⟩ | exact Or.inr ⟨fun q => by simp_all, rfl⟩
    · unfold own_ep; omega
  · -- pc 32 not taken
    replace hc32 : (2 : Int) < w.toInt := hc32
    refine iloadN P d2_35 rfl (n := 36) rfl ?_
    refine callS P d2_36 (argsL := [(.int u)]) (rest := []) (c_isLeap l Z a0 hw u h0 n0 P.low (by omega)) (hw _ (List.mem_of_getElem? (i := 13) rfl)) (hw _ (List.mem_of_getElem? (i := 14) rfl)) (hw _ (List.mem_of_getElem? (i := 7) rfl)) (hw _ (List.mem_of_getElem? (i := 15) rfl)) (by decide) pd_0 rfl rfl rfl ⟨by decide, Nat.le_of_ble_eq_true rfl, by decide, by decide⟩ (n := 39) rfl (RetI.on ?_)
    intro T r19 P hr19
    refine if0_eq P d2_39 (n' := 46) (n := 42) (by decide) rfl (fun hc39 => ?_) (fun hc39 => ?_)
    · -- pc 39 taken
      replace hc39 : r19.toInt = (0 : Int) := hc39
      refine iconst P d2_46 (x := (0 : Int32)) rfl (n := 47) rfl ?_
      refine istore P d2_47 (l' := #[.val (.int u), .val (.int w), .val (.int d), .val (.long z2), .second, .val (.long z9), .second, .val (.int (0 : Int32))]) rfl (n := 49) rfl ?_
      refine lload P d2_49 rfl (n := 51) rfl ?_
      refine getS P d2_51 (hw _ (List.mem_of_getElem? (i := 16) rfl)) S_d (n := 54) rfl ?_
      intro T P
      refine iloadN P d2_54 rfl (n := 55) rfl ?_
      refine iconst P d2_55 (x := (1 : Int32)) rfl (n := 56) rfl ?_
      refine isub P d2_56 (n := 57) rfl ?_
      refine nameI (x := (w - (1 : Int32))) (F := fun z20 => Jvm.Own.Ends p e below s rm_c_epoch n0 (RetJ (fun z => ∃ e : Int, ((2 < w.toInt ∧ own_leap u.toInt ∧ e = 1) ∨ (¬ (2 < w.toInt ∧ own_leap u.toInt) ∧ e = 0)) ∧ z.toInt = own_ep u.toInt (own_days (w.toInt - 1).toNat).toInt e d.toInt) h0) T (mkF m 57 #[.val (.int u), .val (.int w), .val (.int d), .val (.long z2), .second, .val (.long z9), .second, .val (.int (0 : Int32))] [(.int z20), (.ref da), (.long z9)])) ?_
      intro z20 hz20
      have tz20 : z20.toInt = w.toInt - (1 : Int) := n_isub hz20 rfl rfl (by omega)
      refine ialoadI P d2_57 A_d (u := (w.toInt - 1).toNat) ⟨by omega, by omega⟩ (n := 58) rfl ?_
      refine i2l P d2_58 (n := 59) rfl ?_
      refine nameI (x := ((own_days (w.toInt - 1).toNat).toInt64)) (F := fun z21 => Jvm.Own.Ends p e below s rm_c_epoch n0 (RetJ (fun z => ∃ e : Int, ((2 < w.toInt ∧ own_leap u.toInt ∧ e = 1) ∨ (¬ (2 < w.toInt ∧ own_leap u.toInt) ∧ e = 0)) ∧ z.toInt = own_ep u.toInt (own_days (w.toInt - 1).toNat).toInt e d.toInt) h0) T (mkF m 59 #[.val (.int u), .val (.int w), .val (.int d), .val (.long z2), .second, .val (.long z9), .second, .val (.int (0 : Int32))] [(.long z21), (.long z9)])) ?_
      intro z21 hz21
      have tz21 : z21.toInt = (own_days (w.toInt - 1).toNat).toInt := n_i2l hz21 rfl
      refine ladd P d2_59 (n := 60) rfl ?_
      refine nameI (x := (z9 + z21)) (F := fun z22 => Jvm.Own.Ends p e below s rm_c_epoch n0 (RetJ (fun z => ∃ e : Int, ((2 < w.toInt ∧ own_leap u.toInt ∧ e = 1) ∨ (¬ (2 < w.toInt ∧ own_leap u.toInt) ∧ e = 0)) ∧ z.toInt = own_ep u.toInt (own_days (w.toInt - 1).toNat).toInt e d.toInt) h0) T (mkF m 60 #[.val (.int u), .val (.int w), .val (.int d), .val (.long z2), .second, .val (.long z9), .second, .val (.int (0 : Int32))] [(.long z22)])) ?_
      intro z22 hz22
      have tz22 : z22.toInt = z9.toInt + z21.toInt := n_ladd hz22 rfl rfl (by omega)
      refine iload P d2_60 rfl (n := 62) rfl ?_
      refine i2l P d2_62 (n := 63) rfl ?_
      refine nameI (x := ((0 : Int32).toInt64)) (F := fun z23 => Jvm.Own.Ends p e below s rm_c_epoch n0 (RetJ (fun z => ∃ e : Int, ((2 < w.toInt ∧ own_leap u.toInt ∧ e = 1) ∨ (¬ (2 < w.toInt ∧ own_leap u.toInt) ∧ e = 0)) ∧ z.toInt = own_ep u.toInt (own_days (w.toInt - 1).toNat).toInt e d.toInt) h0) T (mkF m 63 #[.val (.int u), .val (.int w), .val (.int d), .val (.long z2), .second, .val (.long z9), .second, .val (.int (0 : Int32))] [(.long z23), (.long z22)])) ?_
      intro z23 hz23
      have tz23 : z23.toInt = (0 : Int) := n_i2l hz23 rfl
      refine ladd P d2_63 (n := 64) rfl ?_
      refine nameI (x := (z22 + z23)) (F := fun z24 => Jvm.Own.Ends p e below s rm_c_epoch n0 (RetJ (fun z => ∃ e : Int, ((2 < w.toInt ∧ own_leap u.toInt ∧ e = 1) ∨ (¬ (2 < w.toInt ∧ own_leap u.toInt) ∧ e = 0)) ∧ z.toInt = own_ep u.toInt (own_days (w.toInt - 1).toNat).toInt e d.toInt) h0) T (mkF m 64 #[.val (.int u), .val (.int w), .val (.int d), .val (.long z2), .second, .val (.long z9), .second, .val (.int (0 : Int32))] [(.long z24)])) ?_
      intro z24 hz24
      have tz24 : z24.toInt = z22.toInt + z23.toInt := n_ladd hz24 rfl rfl (by omega)
      refine iloadN P d2_64 rfl (n := 65) rfl ?_
      refine i2l P d2_65 (n := 66) rfl ?_
      refine nameI (x := (d.toInt64)) (F := fun z25 => Jvm.Own.Ends p e below s rm_c_epoch n0 (RetJ (fun z => ∃ e : Int, ((2 < w.toInt ∧ own_leap u.toInt ∧ e = 1) ∨ (¬ (2 < w.toInt ∧ own_leap u.toInt) ∧ e = 0)) ∧ z.toInt = own_ep u.toInt (own_days (w.toInt - 1).toNat).toInt e d.toInt) h0) T (mkF m 66 #[.val (.int u), .val (.int w), .val (.int d), .val (.long z2), .second, .val (.long z9), .second, .val (.int (0 : Int32))] [(.long z25), (.long z24)])) ?_
      intro z25 hz25
      have tz25 : z25.toInt = d.toInt := n_i2l hz25 rfl
      refine ladd P d2_66 (n := 67) rfl ?_
      refine nameI (x := (z24 + z25)) (F := fun z26 => Jvm.Own.Ends p e below s rm_c_epoch n0 (RetJ (fun z => ∃ e : Int, ((2 < w.toInt ∧ own_leap u.toInt ∧ e = 1) ∨ (¬ (2 < w.toInt ∧ own_leap u.toInt) ∧ e = 0)) ∧ z.toInt = own_ep u.toInt (own_days (w.toInt - 1).toNat).toInt e d.toInt) h0) T (mkF m 67 #[.val (.int u), .val (.int w), .val (.int d), .val (.long z2), .second, .val (.long z9), .second, .val (.int (0 : Int32))] [(.long z26)])) ?_
      intro z26 hz26
      have tz26 : z26.toInt = z24.toInt + z25.toInt := n_ladd hz26 rfl rfl (by omega)
      refine lconst P d2_67 (x := (1 : Int64)) rfl (n := 68) rfl ?_
      refine lsub P d2_68 (n := 69) rfl ?_
      refine nameI (x := (z26 - (1 : Int64))) (F := fun z27 => Jvm.Own.Ends p e below s rm_c_epoch n0 (RetJ (fun z => ∃ e : Int, ((2 < w.toInt ∧ own_leap u.toInt ∧ e = 1) ∨ (¬ (2 < w.toInt ∧ own_leap u.toInt) ∧ e = 0)) ∧ z.toInt = own_ep u.toInt (own_days (w.toInt - 1).toNat).toInt e d.toInt) h0) T (mkF m 69 #[.val (.int u), .val (.int w), .val (.int d), .val (.long z2), .second, .val (.long z9), .second, .val (.int (0 : Int32))] [(.long z27)])) ?_
      intro z27 hz27
      have tz27 : z27.toInt = z26.toInt - (1 : Int) := n_lsub hz27 rfl rfl (by omega)
      refine ldc2J P d2_69 (hw _ (List.mem_of_getElem? (i := 18) rfl)) (n := 72) rfl ?_
      refine lsub P d2_72 (n := 73) rfl ?_
      refine nameI (x := (z27 - (719162 : Int64))) (F := fun z28 => Jvm.Own.Ends p e below s rm_c_epoch n0 (RetJ (fun z => ∃ e : Int, ((2 < w.toInt ∧ own_leap u.toInt ∧ e = 1) ∨ (¬ (2 < w.toInt ∧ own_leap u.toInt) ∧ e = 0)) ∧ z.toInt = own_ep u.toInt (own_days (w.toInt - 1).toNat).toInt e d.toInt) h0) T (mkF m 73 #[.val (.int u), .val (.int w), .val (.int d), .val (.long z2), .second, .val (.long z9), .second, .val (.int (0 : Int32))] [(.long z28)])) ?_
      intro z28 hz28
      have tz28 : z28.toInt = z27.toInt - (719162 : Int) := n_lsub hz28 rfl rfl (by omega)
      refine retL P d2_73 (by decide) (by decide) ?_
      refine RetJ.mk ⟨0, ?_, ?_⟩
      · first | exact Or.inl ⟨by omega, by simp_all, rfl⟩ | exact Or.inr ⟨by omega, rfl⟩ | exact Or.inr ⟨fun q => by simp_all, rfl⟩
      · unfold own_ep; omega
    · -- pc 39 not taken
      replace hc39 : ¬ r19.toInt = (0 : Int) := hc39
      refine iconst P d2_42 (x := (1 : Int32)) rfl (n := 43) rfl ?_
      refine goto P d2_43 (n := 47) (by decide) ?_
      refine istore P d2_47 (l' := #[.val (.int u), .val (.int w), .val (.int d), .val (.long z2), .second, .val (.long z9), .second, .val (.int (1 : Int32))]) rfl (n := 49) rfl ?_
      refine lload P d2_49 rfl (n := 51) rfl ?_
      refine getS P d2_51 (hw _ (List.mem_of_getElem? (i := 16) rfl)) S_d (n := 54) rfl ?_
      intro T P
      refine iloadN P d2_54 rfl (n := 55) rfl ?_
      refine iconst P d2_55 (x := (1 : Int32)) rfl (n := 56) rfl ?_
      refine isub P d2_56 (n := 57) rfl ?_
      refine nameI (x := (w - (1 : Int32))) (F := fun z29 => Jvm.Own.Ends p e below s rm_c_epoch n0 (RetJ (fun z => ∃ e : Int, ((2 < w.toInt ∧ own_leap u.toInt ∧ e = 1) ∨ (¬ (2 < w.toInt ∧ own_leap u.toInt) ∧ e = 0)) ∧ z.toInt = own_ep u.toInt (own_days (w.toInt - 1).toNat).toInt e d.toInt) h0) T (mkF m 57 #[.val (.int u), .val (.int w), .val (.int d), .val (.long z2), .second, .val (.long z9), .second, .val (.int (1 : Int32))] [(.int z29), (.ref da), (.long z9)])) ?_
      intro z29 hz29
      have tz29 : z29.toInt = w.toInt - (1 : Int) := n_isub hz29 rfl rfl (by omega)
      refine ialoadI P d2_57 A_d (u := (w.toInt - 1).toNat) ⟨by omega, by omega⟩ (n := 58) rfl ?_
      refine i2l P d2_58 (n := 59) rfl ?_
      refine nameI (x := ((own_days (w.toInt - 1).toNat).toInt64)) (F := fun z30 => Jvm.Own.Ends p e below s rm_c_epoch n0 (RetJ (fun z => ∃ e : Int, ((2 < w.toInt ∧ own_leap u.toInt ∧ e = 1) ∨ (¬ (2 < w.toInt ∧ own_leap u.toInt) ∧ e = 0)) ∧ z.toInt = own_ep u.toInt (own_days (w.toInt - 1).toNat).toInt e d.toInt) h0) T (mkF m 59 #[.val (.int u), .val (.int w), .val (.int d), .val (.long z2), .second, .val (.long z9), .second, .val (.int (1 : Int32))] [(.long z30), (.long z9)])) ?_
      intro z30 hz30
      have tz30 : z30.toInt = (own_days (w.toInt - 1).toNat).toInt := n_i2l hz30 rfl
      refine ladd P d2_59 (n := 60) rfl ?_
      refine nameI (x := (z9 + z30)) (F := fun z31 => Jvm.Own.Ends p e below s rm_c_epoch n0 (RetJ (fun z => ∃ e : Int, ((2 < w.toInt ∧ own_leap u.toInt ∧ e = 1) ∨ (¬ (2 < w.toInt ∧ own_leap u.toInt) ∧ e = 0)) ∧ z.toInt = own_ep u.toInt (own_days (w.toInt - 1).toNat).toInt e d.toInt) h0) T (mkF m 60 #[.val (.int u), .val (.int w), .val (.int d), .val (.long z2), .second, .val (.long z9), .second, .val (.int (1 : Int32))] [(.long z31)])) ?_
      intro z31 hz31
      have tz31 : z31.toInt = z9.toInt + z30.toInt := n_ladd hz31 rfl rfl (by omega)
      refine iload P d2_60 rfl (n := 62) rfl ?_
      refine i2l P d2_62 (n := 63) rfl ?_
      refine nameI (x := ((1 : Int32).toInt64)) (F := fun z32 => Jvm.Own.Ends p e below s rm_c_epoch n0 (RetJ (fun z => ∃ e : Int, ((2 < w.toInt ∧ own_leap u.toInt ∧ e = 1) ∨ (¬ (2 < w.toInt ∧ own_leap u.toInt) ∧ e = 0)) ∧ z.toInt = own_ep u.toInt (own_days (w.toInt - 1).toNat).toInt e d.toInt) h0) T (mkF m 63 #[.val (.int u), .val (.int w), .val (.int d), .val (.long z2), .second, .val (.long z9), .second, .val (.int (1 : Int32))] [(.long z32), (.long z31)])) ?_
      intro z32 hz32
      have tz32 : z32.toInt = (1 : Int) := n_i2l hz32 rfl
      refine ladd P d2_63 (n := 64) rfl ?_
      refine nameI (x := (z31 + z32)) (F := fun z33 => Jvm.Own.Ends p e below s rm_c_epoch n0 (RetJ (fun z => ∃ e : Int, ((2 < w.toInt ∧ own_leap u.toInt ∧ e = 1) ∨ (¬ (2 < w.toInt ∧ own_leap u.toInt) ∧ e = 0)) ∧ z.toInt = own_ep u.toInt (own_days (w.toInt - 1).toNat).toInt e d.toInt) h0) T (mkF m 64 #[.val (.int u), .val (.int w), .val (.int d), .val (.long z2), .second, .val (.long z9), .second, .val (.int (1 : Int32))] [(.long z33)])) ?_
      intro z33 hz33
      have tz33 : z33.toInt = z31.toInt + z32.toInt := n_ladd hz33 rfl rfl (by omega)
      refine iloadN P d2_64 rfl (n := 65) rfl ?_
      refine i2l P d2_65 (n := 66) rfl ?_
      refine nameI (x := (d.toInt64)) (F := fun z34 => Jvm.Own.Ends p e below s rm_c_epoch n0 (RetJ (fun z => ∃ e : Int, ((2 < w.toInt ∧ own_leap u.toInt ∧ e = 1) ∨ (¬ (2 < w.toInt ∧ own_leap u.toInt) ∧ e = 0)) ∧ z.toInt = own_ep u.toInt (own_days (w.toInt - 1).toNat).toInt e d.toInt) h0) T (mkF m 66 #[.val (.int u), .val (.int w), .val (.int d), .val (.long z2), .second, .val (.long z9), .second, .val (.int (1 : Int32))] [(.long z34), (.long z33)])) ?_
      intro z34 hz34
      have tz34 : z34.toInt = d.toInt := n_i2l hz34 rfl
      refine ladd P d2_66 (n := 67) rfl ?_
      refine nameI (x := (z33 + z34)) (F := fun z35 => Jvm.Own.Ends p e below s rm_c_epoch n0 (RetJ (fun z => ∃ e : Int, ((2 < w.toInt ∧ own_leap u.toInt ∧ e = 1) ∨ (¬ (2 < w.toInt ∧ own_leap u.toInt) ∧ e = 0)) ∧ z.toInt = own_ep u.toInt (own_days (w.toInt - 1).toNat).toInt e d.toInt) h0) T (mkF m 67 #[.val (.int u), .val (.int w), .val (.int d), .val (.long z2), .second, .val (.long z9), .second, .val (.int (1 : Int32))] [(.long z35)])) ?_
      intro z35 hz35
      have tz35 : z35.toInt = z33.toInt + z34.toInt := n_ladd hz35 rfl rfl (by omega)
      refine lconst P d2_67 (x := (1 : Int64)) rfl (n := 68) rfl ?_
      refine lsub P d2_68 (n := 69) rfl ?_
      refine nameI (x := (z35 - (1 : Int64))) (F := fun z36 => Jvm.Own.Ends p e below s rm_c_epoch n0 (RetJ (fun z => ∃ e : Int, ((2 < w.toInt ∧ own_leap u.toInt ∧ e = 1) ∨ (¬ (2 < w.toInt ∧ own_leap u.toInt) ∧ e = 0)) ∧ z.toInt = own_ep u.toInt (own_days (w.toInt - 1).toNat).toInt e d.toInt) h0) T (mkF m 69 #[.val (.int u), .val (.int w), .val (.int d), .val (.long z2), .second, .val (.long z9), .second, .val (.int (1 : Int32))] [(.long z36)])) ?_
      intro z36 hz36
      have tz36 : z36.toInt = z35.toInt - (1 : Int) := n_lsub hz36 rfl rfl (by omega)
      refine ldc2J P d2_69 (hw _ (List.mem_of_getElem? (i := 18) rfl)) (n := 72) rfl ?_
      refine lsub P d2_72 (n := 73) rfl ?_
      refine nameI (x := (z36 - (719162 : Int64))) (F := fun z37 => Jvm.Own.Ends p e below s rm_c_epoch n0 (RetJ (fun z => ∃ e : Int, ((2 < w.toInt ∧ own_leap u.toInt ∧ e = 1) ∨ (¬ (2 < w.toInt ∧ own_leap u.toInt) ∧ e = 0)) ∧ z.toInt = own_ep u.toInt (own_days (w.toInt - 1).toNat).toInt e d.toInt) h0) T (mkF m 73 #[.val (.int u), .val (.int w), .val (.int d), .val (.long z2), .second, .val (.long z9), .second, .val (.int (1 : Int32))] [(.long z37)])) ?_
      intro z37 hz37
      have tz37 : z37.toInt = z36.toInt - (719162 : Int) := n_lsub hz37 rfl rfl (by omega)
      refine retL P d2_73 (by decide) (by decide) ?_
      refine RetJ.mk ⟨1, ?_, ?_⟩
      · first | exact Or.inl ⟨by omega, by simp_all, rfl⟩ | exact Or.inr ⟨by omega, rfl⟩ | exact Or.inr ⟨fun q => by simp_all, rfl⟩
      · unfold own_ep; omega
theorem d4_0 : decode method_5_code 0 = .ok (.iload_n 1, 1) := by decide +kernel
theorem d4_1 : decode method_5_code 1 = .ok (.iconst 2, 1) := by decide +kernel
theorem d4_2 : decode method_5_code 2 = .ok (.if_icmp .gt 10, 3) := by decide +kernel
theorem d4_5 : decode method_5_code 5 = .ok (.iload_n 0, 1) := by decide +kernel
theorem d4_6 : decode method_5_code 6 = .ok (.i2l, 1) := by decide +kernel
theorem d4_7 : decode method_5_code 7 = .ok (.lconst 1, 1) := by decide +kernel
theorem d4_8 : decode method_5_code 8 = .ok (.lsub, 1) := by decide +kernel
theorem d4_9 : decode method_5_code 9 = .ok (.goto 5, 3) := by decide +kernel
theorem d4_12 : decode method_5_code 12 = .ok (.iload_n 0, 1) := by decide +kernel
theorem d4_13 : decode method_5_code 13 = .ok (.i2l, 1) := by decide +kernel
theorem d4_14 : decode method_5_code 14 = .ok (.lstore_n 3, 1) := by decide +kernel
theorem d4_15 : decode method_5_code 15 = .ok (.lload_n 3, 1) := by decide +kernel
theorem d4_16 : decode method_5_code 16 = .ok (.ldc2_w 29, 3) := by decide +kernel
theorem d4_19 : decode method_5_code 19 = .ok (.ldiv, 1) := by decide +kernel
theorem d4_20 : decode method_5_code 20 = .ok (.lstore 5, 2) := by decide +kernel
theorem d4_22 : decode method_5_code 22 = .ok (.lload_n 3, 1) := by decide +kernel
theorem d4_23 : decode method_5_code 23 = .ok (.lload 5, 2) := by decide +kernel
theorem d4_25 : decode method_5_code 25 = .ok (.ldc2_w 29, 3) := by decide +kernel
theorem d4_28 : decode method_5_code 28 = .ok (.lmul, 1) := by decide +kernel
theorem d4_29 : decode method_5_code 29 = .ok (.lsub, 1) := by decide +kernel
theorem d4_30 : decode method_5_code 30 = .ok (.lstore 7, 2) := by decide +kernel
theorem d4_32 : decode method_5_code 32 = .ok (.iload_n 1, 1) := by decide +kernel
theorem d4_33 : decode method_5_code 33 = .ok (.iconst 2, 1) := by decide +kernel
theorem d4_34 : decode method_5_code 34 = .ok (.if_icmp .le 10, 3) := by decide +kernel
theorem d4_37 : decode method_5_code 37 = .ok (.iload_n 1, 1) := by decide +kernel
theorem d4_38 : decode method_5_code 38 = .ok (.iconst 3, 1) := by decide +kernel
theorem d4_39 : decode method_5_code 39 = .ok (.isub, 1) := by decide +kernel
theorem d4_40 : decode method_5_code 40 = .ok (.i2l, 1) := by decide +kernel
theorem d4_41 : decode method_5_code 41 = .ok (.goto 8, 3) := by decide +kernel
theorem d4_44 : decode method_5_code 44 = .ok (.iload_n 1, 1) := by decide +kernel
theorem d4_45 : decode method_5_code 45 = .ok (.bipush 9, 2) := by decide +kernel
theorem d4_47 : decode method_5_code 47 = .ok (.iadd, 1) := by decide +kernel
theorem d4_48 : decode method_5_code 48 = .ok (.i2l, 1) := by decide +kernel
theorem d4_49 : decode method_5_code 49 = .ok (.lstore 9, 2) := by decide +kernel
theorem d4_51 : decode method_5_code 51 = .ok (.ldc2_w 31, 3) := by decide +kernel
theorem d4_54 : decode method_5_code 54 = .ok (.lload 9, 2) := by decide +kernel
theorem d4_56 : decode method_5_code 56 = .ok (.lmul, 1) := by decide +kernel
theorem d4_57 : decode method_5_code 57 = .ok (.ldc2_w 33, 3) := by decide +kernel
theorem d4_60 : decode method_5_code 60 = .ok (.ladd, 1) := by decide +kernel
theorem d4_61 : decode method_5_code 61 = .ok (.ldc2_w 35, 3) := by decide +kernel
theorem d4_64 : decode method_5_code 64 = .ok (.ldiv, 1) := by decide +kernel
theorem d4_65 : decode method_5_code 65 = .ok (.iload_n 2, 1) := by decide +kernel
theorem d4_66 : decode method_5_code 66 = .ok (.i2l, 1) := by decide +kernel
theorem d4_67 : decode method_5_code 67 = .ok (.ladd, 1) := by decide +kernel
theorem d4_68 : decode method_5_code 68 = .ok (.lconst 1, 1) := by decide +kernel
theorem d4_69 : decode method_5_code 69 = .ok (.lsub, 1) := by decide +kernel
theorem d4_70 : decode method_5_code 70 = .ok (.lstore 11, 2) := by decide +kernel
theorem d4_72 : decode method_5_code 72 = .ok (.lload 7, 2) := by decide +kernel
theorem d4_74 : decode method_5_code 74 = .ok (.ldc2_w 37, 3) := by decide +kernel
theorem d4_77 : decode method_5_code 77 = .ok (.lmul, 1) := by decide +kernel
theorem d4_78 : decode method_5_code 78 = .ok (.lload 7, 2) := by decide +kernel
theorem d4_80 : decode method_5_code 80 = .ok (.ldc2_w 39, 3) := by decide +kernel
theorem d4_83 : decode method_5_code 83 = .ok (.ldiv, 1) := by decide +kernel
theorem d4_84 : decode method_5_code 84 = .ok (.ladd, 1) := by decide +kernel
theorem d4_85 : decode method_5_code 85 = .ok (.lload 7, 2) := by decide +kernel
theorem d4_87 : decode method_5_code 87 = .ok (.ldc2_w 41, 3) := by decide +kernel
theorem d4_90 : decode method_5_code 90 = .ok (.ldiv, 1) := by decide +kernel
theorem d4_91 : decode method_5_code 91 = .ok (.lsub, 1) := by decide +kernel
theorem d4_92 : decode method_5_code 92 = .ok (.lload 11, 2) := by decide +kernel
theorem d4_94 : decode method_5_code 94 = .ok (.ladd, 1) := by decide +kernel
theorem d4_95 : decode method_5_code 95 = .ok (.lstore 13, 2) := by decide +kernel
theorem d4_97 : decode method_5_code 97 = .ok (.lload 5, 2) := by decide +kernel
theorem d4_99 : decode method_5_code 99 = .ok (.ldc2_w 43, 3) := by decide +kernel
theorem d4_102 : decode method_5_code 102 = .ok (.lmul, 1) := by decide +kernel
theorem d4_103 : decode method_5_code 103 = .ok (.lload 13, 2) := by decide +kernel
theorem d4_105 : decode method_5_code 105 = .ok (.ladd, 1) := by decide +kernel
theorem d4_106 : decode method_5_code 106 = .ok (.ldc2_w 45, 3) := by decide +kernel
theorem d4_109 : decode method_5_code 109 = .ok (.lsub, 1) := by decide +kernel
theorem d4_110 : decode method_5_code 110 = .ok (.lreturn, 1) := by decide +kernel
theorem ef_4 (m : MethodId) (u : Int32) (w : Int32) (d : Int32) : entryFrame m #[(.int u), (.int w), (.int d)] 15 = mkF m 0 #[.val (.int u), .val (.int w), .val (.int d), .unset, .unset, .unset, .unset, .unset, .unset, .unset, .unset, .unset, .unset, .unset, .unset] [] := by first | (simp [entryFrame, mkF, argsToLocals, Value.category]; done) | rfl
abbrev rm_c_ref : Room := { frames := 0, cells := 0, slots := 0, locals := 0 }
set_option maxRecDepth 65536 in
set_option maxHeartbeats 40000000 in
theorem c_ref (l : Launch) (Z : State) (a0 : Array Value) (hw : ∀ d ∈ tables_1, d.before a0 Z = true) (u : Int32) (w : Int32) (d : Int32)  (h0 : Heap) (n0 : Nat) (low : n0 ≤ h0.size) (hy : 1 ≤ u.toInt) (hm : 1 ≤ w.toInt ∧ w.toInt ≤ 12) (hd : 1 ≤ d.toInt ∧ d.toInt ≤ 31) :
    Meth l Z (⟨"com/example/sessionloom/sessionloom/FixedTimeFormatEpochDayPinLaw", "reference", "(III)J"⟩ : MethodName) method_5_code 15 (some .long) rm_c_ref #[(.int u), (.int w), (.int d)] h0 n0 (RetJ (fun z => (w.toInt ≤ 2 → z.toInt = own_ref (u.toInt - 1) (w.toInt + 9) d.toInt) ∧ (2 < w.toInt → z.toInt = own_ref u.toInt (w.toInt - 3) d.toInt)) h0) := by
  refine Meth.of (plainFor_of_name pn_1) low ?_
  intro p e s m args below meth c T P
  refine Ends.cast (ef_4 m u w d) ?_
  have hu := rng32 u
  refine iloadN P d4_0 rfl (n := 1) rfl ?_
  refine iconst P d4_1 (x := (2 : Int32)) rfl (n := 2) rfl ?_
  refine icmp_gt P d4_2 (n' := 12) (n := 5) (by decide) rfl (fun hc2 => ?_) (fun hc2 => ?_)
  · -- pc 2 taken
    replace hc2 : (2 : Int) < w.toInt := hc2
    refine iloadN P d4_12 rfl (n := 13) rfl ?_
    refine i2l P d4_13 (n := 14) rfl ?_
    refine nameI (x := (u.toInt64)) (F := fun z1 => Jvm.Own.Ends p e below s rm_c_ref n0 (RetJ (fun z => (w.toInt ≤ 2 → z.toInt = own_ref (u.toInt - 1) (w.toInt + 9) d.toInt) ∧ (2 < w.toInt → z.toInt = own_ref u.toInt (w.toInt - 3) d.toInt)) h0) T (mkF m 14 #[.val (.int u), .val (.int w), .val (.int d), .unset, .unset, .unset, .unset, .unset, .unset, .unset, .unset, .unset, .unset, .unset, .unset] [(.long z1)])) ?_
    intro z1 hz1
    have tz1 : z1.toInt = u.toInt := n_i2l hz1 rfl
    refine lstoreN P d4_14 (l' := #[.val (.int u), .val (.int w), .val (.int d), .val (.long z1), .second, .unset, .unset, .unset, .unset, .unset, .unset, .unset, .unset, .unset, .unset]) rfl (n := 15) rfl ?_
    refine lloadN P d4_15 rfl (n := 16) rfl ?_
    refine ldc2J P d4_16 (hw _ (List.mem_of_getElem? (i := 22) rfl)) (n := 19) rfl ?_
    refine ldiv P d4_19 (by decide) (n := 20) rfl ?_
    refine nameI (x := (z1 / (400 : Int64))) (F := fun z2 => Jvm.Own.Ends p e below s rm_c_ref n0 (RetJ (fun z => (w.toInt ≤ 2 → z.toInt = own_ref (u.toInt - 1) (w.toInt + 9) d.toInt) ∧ (2 < w.toInt → z.toInt = own_ref u.toInt (w.toInt - 3) d.toInt)) h0) T (mkF m 20 #[.val (.int u), .val (.int w), .val (.int d), .val (.long z1), .second, .unset, .unset, .unset, .unset, .unset, .unset, .unset, .unset, .unset, .unset] [(.long z2)])) ?_
    intro z2 hz2
    have tz2 : z2.toInt = z1.toInt / (400 : Int) := n_ldiv hz2 rfl rfl (by omega)
    refine lstore P d4_20 (l' := #[.val (.int u), .val (.int w), .val (.int d), .val (.long z1), .second, .val (.long z2), .second, .unset, .unset, .unset, .unset, .unset, .unset, .unset, .unset]) rfl (n := 22) rfl ?_
    refine lloadN P d4_22 rfl (n := 23) rfl ?_
    refine lload P d4_23 rfl (n := 25) rfl ?_
    refine ldc2J P d4_25 (hw _ (List.mem_of_getElem? (i := 22) rfl)) (n := 28) rfl ?_
    refine lmul P d4_28 (n := 29) rfl ?_
    refine nameI (x := (z2 * (400 : Int64))) (F := fun z3 => Jvm.Own.Ends p e below s rm_c_ref n0 (RetJ (fun z => (w.toInt ≤ 2 → z.toInt = own_ref (u.toInt - 1) (w.toInt + 9) d.toInt) ∧ (2 < w.toInt → z.toInt = own_ref u.toInt (w.toInt - 3) d.toInt)) h0) T (mkF m 29 #[.val (.int u), .val (.int w), .val (.int d), .val (.long z1), .second, .val (.long z2), .second, .unset, .unset, .unset, .unset, .unset, .unset, .unset, .unset] [(.long z3), (.long z1)])) ?_
    intro z3 hz3
    have tz3 : z3.toInt = z2.toInt * (400 : Int) := n_lmul hz3 rfl rfl (by omega)
    refine lsub P d4_29 (n := 30) rfl ?_
    refine nameI (x := (z1 - z3)) (F := fun z4 => Jvm.Own.Ends p e below s rm_c_ref n0 (RetJ (fun z => (w.toInt ≤ 2 → z.toInt = own_ref (u.toInt - 1) (w.toInt + 9) d.toInt) ∧ (2 < w.toInt → z.toInt = own_ref u.toInt (w.toInt - 3) d.toInt)) h0) T (mkF m 30 #[.val (.int u), .val (.int w), .val (.int d), .val (.long z1), .second, .val (.long z2), .second, .unset, .unset, .unset, .unset, .unset, .unset, .unset, .unset] [(.long z4)])) ?_
    intro z4 hz4
    have tz4 : z4.toInt = z1.toInt - z3.toInt := n_lsub hz4 rfl rfl (by omega)
    refine lstore P d4_30 (l' := #[.val (.int u), .val (.int w), .val (.int d), .val (.long z1), .second, .val (.long z2), .second, .val (.long z4), .second, .unset, .unset, .unset, .unset, .unset, .unset]) rfl (n := 32) rfl ?_
    refine iloadN P d4_32 rfl (n := 33) rfl ?_
    refine iconst P d4_33 (x := (2 : Int32)) rfl (n := 34) rfl ?_
    refine icmp_le P d4_34 (n' := 44) (n := 37) (by decide) rfl (fun hc34 => ?_) (fun hc34 => ?_)
    · -- pc 34 taken
      replace hc34 : w.toInt ≤ (2 : Int) := hc34
      refine iloadN P d4_44 rfl (n := 45) rfl ?_
      refine bipush P d4_45 (x := (9 : Int32)) rfl (n := 47) rfl ?_
      refine iadd P d4_47 (n := 48) rfl ?_
      refine nameI (x := (w + (9 : Int32))) (F := fun z5 => Jvm.Own.Ends p e below s rm_c_ref n0 (RetJ (fun z => (w.toInt ≤ 2 → z.toInt = own_ref (u.toInt - 1) (w.toInt + 9) d.toInt) ∧ (2 < w.toInt → z.toInt = own_ref u.toInt (w.toInt - 3) d.toInt)) h0) T (mkF m 48 #[.val (.int u), .val (.int w), .val (.int d), .val (.long z1), .second, .val (.long z2), .second, .val (.long z4), .second, .unset, .unset, .unset, .unset, .unset, .unset] [(.int z5)])) ?_
      intro z5 hz5
      have tz5 : z5.toInt = w.toInt + (9 : Int) := n_iadd hz5 rfl rfl (by omega)
      refine i2l P d4_48 (n := 49) rfl ?_
      refine nameI (x := (z5.toInt64)) (F := fun z6 => Jvm.Own.Ends p e below s rm_c_ref n0 (RetJ (fun z => (w.toInt ≤ 2 → z.toInt = own_ref (u.toInt - 1) (w.toInt + 9) d.toInt) ∧ (2 < w.toInt → z.toInt = own_ref u.toInt (w.toInt - 3) d.toInt)) h0) T (mkF m 49 #[.val (.int u), .val (.int w), .val (.int d), .val (.long z1), .second, .val (.long z2), .second, .val (.long z4), .second, .unset, .unset, .unset, .unset, .unset, .unset] [(.long z6)])) ?_
      intro z6 hz6
      have tz6 : z6.toInt = z5.toInt := n_i2l hz6 rfl
      refine lstore P d4_49 (l' := #[.val (.int u), .val (.int w), .val (.int d), .val (.long z1), .second, .val (.long z2), .second, .val (.long z4), .second, .val (.long z6), .second, .unset, .unset, .unset, .unset]) rfl (n := 51) rfl ?_
      refine ldc2J P d4_51 (hw _ (List.mem_of_getElem? (i := 23) rfl)) (n := 54) rfl ?_
      refine lload P d4_54 rfl (n := 56) rfl ?_
      refine lmul P d4_56 (n := 57) rfl ?_
      refine nameI (x := ((153 : Int64) * z6)) (F := fun z7 => Jvm.Own.Ends p e below s rm_c_ref n0 (RetJ (fun z => (w.toInt ≤ 2 → z.toInt = own_ref (u.toInt - 1) (w.toInt + 9) d.toInt) ∧ (2 < w.toInt → z.toInt = own_ref u.toInt (w.toInt - 3) d.toInt)) h0) T (mkF m 57 #[.val (.int u), .val (.int w), .val (.int d), .val (.long z1), .second, .val (.long z2), .second, .val (.long z4), .second, .val (.long z6), .second, .unset, .unset, .unset, .unset] [(.long z7)])) ?_
      intro z7 hz7
      have tz7 : z7.toInt = (153 : Int) * z6.toInt := n_lmul hz7 rfl rfl (by omega)
      refine ldc2J P d4_57 (hw _ (List.mem_of_getElem? (i := 24) rfl)) (n := 60) rfl ?_
      refine ladd P d4_60 (n := 61) rfl ?_
      refine nameI (x := (z7 + (2 : Int64))) (F := fun z8 => Jvm.Own.Ends p e below s rm_c_ref n0 (RetJ (fun z => (w.toInt ≤ 2 → z.toInt = own_ref (u.toInt - 1) (w.toInt + 9) d.toInt) ∧ (2 < w.toInt → z.toInt = own_ref u.toInt (w.toInt - 3) d.toInt)) h0) T (mkF m 61 #[.val (.int u), .val (.int w), .val (.int d), .val (.long z1), .second, .val (.long z2), .second, .val (.long z4), .second, .val (.long z6), .second, .unset, .unset, .unset, .unset] [(.long z8)])) ?_
      intro z8 hz8
      have tz8 : z8.toInt = z7.toInt + (2 : Int) := n_ladd hz8 rfl rfl (by omega)
      refine ldc2J P d4_61 (hw _ (List.mem_of_getElem? (i := 25) rfl)) (n := 64) rfl ?_
      refine ldiv P d4_64 (by decide) (n := 65) rfl ?_
      refine nameI (x := (z8 / (5 : Int64))) (F := fun z9 => Jvm.Own.Ends p e below s rm_c_ref n0 (RetJ (fun z => (w.toInt ≤ 2 → z.toInt = own_ref (u.toInt - 1) (w.toInt + 9) d.toInt) ∧ (2 < w.toInt → z.toInt = own_ref u.toInt (w.toInt - 3) d.toInt)) h0) T (mkF m 65 #[.val (.int u), .val (.int w), .val (.int d), .val (.long z1), .second, .val (.long z2), .second, .val (.long z4), .second, .val (.long z6), .second, .unset, .unset, .unset, .unset] [(.long z9)])) ?_
      intro z9 hz9
      have tz9 : z9.toInt = z8.toInt / (5 : Int) := n_ldiv hz9 rfl rfl (by omega)
      refine iloadN P d4_65 rfl (n := 66) rfl ?_
      refine i2l P d4_66 (n := 67) rfl ?_
      refine nameI (x := (d.toInt64)) (F := fun z10 => Jvm.Own.Ends p e below s rm_c_ref n0 (RetJ (fun z => (w.toInt ≤ 2 → z.toInt = own_ref (u.toInt - 1) (w.toInt + 9) d.toInt) ∧ (2 < w.toInt → z.toInt = own_ref u.toInt (w.toInt - 3) d.toInt)) h0) T (mkF m 67 #[.val (.int u), .val (.int w), .val (.int d), .val (.long z1), .second, .val (.long z2), .second, .val (.long z4), .second, .val (.long z6), .second, .unset, .unset, .unset, .unset] [(.long z10), (.long z9)])) ?_
      intro z10 hz10
      have tz10 : z10.toInt = d.toInt := n_i2l hz10 rfl
      refine ladd P d4_67 (n := 68) rfl ?_
      refine nameI (x := (z9 + z10)) (F := fun z11 => Jvm.Own.Ends p e below s rm_c_ref n0 (RetJ (fun z => (w.toInt ≤ 2 → z.toInt = own_ref (u.toInt - 1) (w.toInt + 9) d.toInt) ∧ (2 < w.toInt → z.toInt = own_ref u.toInt (w.toInt - 3) d.toInt)) h0) T (mkF m 68 #[.val (.int u), .val (.int w), .val (.int d), .val (.long z1), .second, .val (.long z2), .second, .val (.long z4), .second, .val (.long z6), .second, .unset, .unset, .unset, .unset] [(.long z11)])) ?_
      intro z11 hz11
      have tz11 : z11.toInt = z9.toInt + z10.toInt := n_ladd hz11 rfl rfl (by omega)
      refine lconst P d4_68 (x := (1 : Int64)) rfl (n := 69) rfl ?_
      refine lsub P d4_69 (n := 70) rfl ?_
      refine nameI (x := (z11 - (1 : Int64))) (F := fun z12 => Jvm.Own.Ends p e below s rm_c_ref n0 (RetJ (fun z => (w.toInt ≤ 2 → z.toInt = own_ref (u.toInt - 1) (w.toInt + 9) d.toInt) ∧ (2 < w.toInt → z.toInt = own_ref u.toInt (w.toInt - 3) d.toInt)) h0) T (mkF m 70 #[.val (.int u), .val (.int w), .val (.int d), .val (.long z1), .second, .val (.long z2), .second, .val (.long z4), .second, .val (.long z6), .second, .unset, .unset, .unset, .unset] [(.long z12)])) ?_
      intro z12 hz12
      have tz12 : z12.toInt = z11.toInt - (1 : Int) := n_lsub hz12 rfl rfl (by omega)
      refine lstore P d4_70 (l' := #[.val (.int u), .val (.int w), .val (.int d), .val (.long z1), .second, .val (.long z2), .second, .val (.long z4), .second, .val (.long z6), .second, .val (.long z12), .second, .unset, .unset]) rfl (n := 72) rfl ?_
      refine lload P d4_72 rfl (n := 74) rfl ?_
      refine ldc2J P d4_74 (hw _ (List.mem_of_getElem? (i := 26) rfl)) (n := 77) rfl ?_
      refine lmul P d4_77 (n := 78) rfl ?_
      refine nameI (x := (z4 * (365 : Int64))) (F := fun z13 => Jvm.Own.Ends p e below s rm_c_ref n0 (RetJ (fun z => (w.toInt ≤ 2 → z.toInt = own_ref (u.toInt - 1) (w.toInt + 9) d.toInt) ∧ (2 < w.toInt → z.toInt = own_ref u.toInt (w.toInt - 3) d.toInt)) h0) T (mkF m 78 #[.val (.int u), .val (.int w), .val (.int d), .val (.long z1), .second, .val (.long z2), .second, .val (.long z4), .second, .val (.long z6), .second, .val (.long z12), .second, .unset, .unset] [(.long z13)])) ?_
      intro z13 hz13
      have tz13 : z13.toInt = z4.toInt * (365 : Int) := n_lmul hz13 rfl rfl (by omega)
      refine lload P d4_78 rfl (n := 80) rfl ?_
      refine ldc2J P d4_80 (hw _ (List.mem_of_getElem? (i := 27) rfl)) (n := 83) rfl ?_
      refine ldiv P d4_83 (by decide) (n := 84) rfl ?_
      refine nameI (x := (z4 / (4 : Int64))) (F := fun z14 => Jvm.Own.Ends p e below s rm_c_ref n0 (RetJ (fun z => (w.toInt ≤ 2 → z.toInt = own_ref (u.toInt - 1) (w.toInt + 9) d.toInt) ∧ (2 < w.toInt → z.toInt = own_ref u.toInt (w.toInt - 3) d.toInt)) h0) T (mkF m 84 #[.val (.int u), .val (.int w), .val (.int d), .val (.long z1), .second, .val (.long z2), .second, .val (.long z4), .second, .val (.long z6), .second, .val (.long z12), .second, .unset, .unset] [(.long z14), (.long z13)])) ?_
      intro z14 hz14
      have tz14 : z14.toInt = z4.toInt / (4 : Int) := n_ldiv hz14 rfl rfl (by omega)
      refine ladd P d4_84 (n := 85) rfl ?_
      refine nameI (x := (z13 + z14)) (F := fun z15 => Jvm.Own.Ends p e below s rm_c_ref n0 (RetJ (fun z => (w.toInt ≤ 2 → z.toInt = own_ref (u.toInt - 1) (w.toInt + 9) d.toInt) ∧ (2 < w.toInt → z.toInt = own_ref u.toInt (w.toInt - 3) d.toInt)) h0) T (mkF m 85 #[.val (.int u), .val (.int w), .val (.int d), .val (.long z1), .second, .val (.long z2), .second, .val (.long z4), .second, .val (.long z6), .second, .val (.long z12), .second, .unset, .unset] [(.long z15)])) ?_
      intro z15 hz15
      have tz15 : z15.toInt = z13.toInt + z14.toInt := n_ladd hz15 rfl rfl (by omega)
      refine lload P d4_85 rfl (n := 87) rfl ?_
      refine ldc2J P d4_87 (hw _ (List.mem_of_getElem? (i := 28) rfl)) (n := 90) rfl ?_
      refine ldiv P d4_90 (by decide) (n := 91) rfl ?_
      refine nameI (x := (z4 / (100 : Int64))) (F := fun z16 => Jvm.Own.Ends p e below s rm_c_ref n0 (RetJ (fun z => (w.toInt ≤ 2 → z.toInt = own_ref (u.toInt - 1) (w.toInt + 9) d.toInt) ∧ (2 < w.toInt → z.toInt = own_ref u.toInt (w.toInt - 3) d.toInt)) h0) T (mkF m 91 #[.val (.int u), .val (.int w), .val (.int d), .val (.long z1), .second, .val (.long z2), .second, .val (.long z4), .second, .val (.long z6), .second, .val (.long z12), .second, .unset, .unset] [(.long z16), (.long z15)])) ?_
      intro z16 hz16
      have tz16 : z16.toInt = z4.toInt / (100 : Int) := n_ldiv hz16 rfl rfl (by omega)
      refine lsub P d4_91 (n := 92) rfl ?_
      refine nameI (x := (z15 - z16)) (F := fun z17 => Jvm.Own.Ends p e below s rm_c_ref n0 (RetJ (fun z => (w.toInt ≤ 2 → z.toInt = own_ref (u.toInt - 1) (w.toInt + 9) d.toInt) ∧ (2 < w.toInt → z.toInt = own_ref u.toInt (w.toInt - 3) d.toInt)) h0) T (mkF m 92 #[.val (.int u), .val (.int w), .val (.int d), .val (.long z1), .second, .val (.long z2), .second, .val (.long z4), .second, .val (.long z6), .second, .val (.long z12), .second, .unset, .unset] [(.long z17)])) ?_
      intro z17 hz17
      have tz17 : z17.toInt = z15.toInt - z16.toInt := n_lsub hz17 rfl rfl (by omega)
      refine lload P d4_92 rfl (n := 94) rfl ?_
      refine ladd P d4_94 (n := 95) rfl ?_
      refine nameI (x := (z17 + z12)) (F := fun z18 => Jvm.Own.Ends p e below s rm_c_ref n0 (RetJ (fun z => (w.toInt ≤ 2 → z.toInt = own_ref (u.toInt - 1) (w.toInt + 9) d.toInt) ∧ (2 < w.toInt → z.toInt = own_ref u.toInt (w.toInt - 3) d.toInt)) h0) T (mkF m 95 #[.val (.int u), .val (.int w), .val (.int d), .val (.long z1), .second, .val (.long z2), .second, .val (.long z4), .second, .val (.long z6), .second, .val (.long z12), .second, .unset, .unset] [(.long z18)])) ?_
      intro z18 hz18
      have tz18 : z18.toInt = z17.toInt + z12.toInt := n_ladd hz18 rfl rfl (by omega)
      refine lstore P d4_95 (l' := #[.val (.int u), .val (.int w), .val (.int d), .val (.long z1), .second, .val (.long z2), .second, .val (.long z4), .second, .val (.long z6), .second, .val (.long z12), .second, .val (.long z18), .second]) rfl (n := 97) rfl ?_
      refine lload P d4_97 rfl (n := 99) rfl ?_
      refine ldc2J P d4_99 (hw _ (List.mem_of_getElem? (i := 29) rfl)) (n := 102) rfl ?_
      refine lmul P d4_102 (n := 103) rfl ?_
      refine nameI (x := (z2 * (146097 : Int64))) (F := fun z19 => Jvm.Own.Ends p e below s rm_c_ref n0 (RetJ (fun z => (w.toInt ≤ 2 → z.toInt = own_ref (u.toInt - 1) (w.toInt + 9) d.toInt) ∧ (2 < w.toInt → z.toInt = own_ref u.toInt (w.toInt - 3) d.toInt)) h0) T (mkF m 103 #[.val (.int u), .val (.int w), .val (.int d), .val (.long z1), .second, .val (.long z2), .second, .val (.long z4), .second, .val (.long z6), .second, .val (.long z12), .second, .val (.long z18), .second] [(.long z19)])) ?_
      intro z19 hz19
      have tz19 : z19.toInt = z2.toInt * (146097 : Int) := n_lmul hz19 rfl rfl (by omega)
      refine lload P d4_103 rfl (n := 105) rfl ?_
      refine ladd P d4_105 (n := 106) rfl ?_
      refine nameI (x := (z19 + z18)) (F := fun z20 => Jvm.Own.Ends p e below s rm_c_ref n0 (RetJ (fun z => (w.toInt ≤ 2 → z.toInt = own_ref (u.toInt - 1) (w.toInt + 9) d.toInt) ∧ (2 < w.toInt → z.toInt = own_ref u.toInt (w.toInt - 3) d.toInt)) h0) T (mkF m 106 #[.val (.int u), .val (.int w), .val (.int d), .val (.long z1), .second, .val (.long z2), .second, .val (.long z4), .second, .val (.long z6), .second, .val (.long z12), .second, .val (.long z18), .second] [(.long z20)])) ?_
      intro z20 hz20
      have tz20 : z20.toInt = z19.toInt + z18.toInt := n_ladd hz20 rfl rfl (by omega)
      refine ldc2J P d4_106 (hw _ (List.mem_of_getElem? (i := 30) rfl)) (n := 109) rfl ?_
      refine lsub P d4_109 (n := 110) rfl ?_
      refine nameI (x := (z20 - (719468 : Int64))) (F := fun z21 => Jvm.Own.Ends p e below s rm_c_ref n0 (RetJ (fun z => (w.toInt ≤ 2 → z.toInt = own_ref (u.toInt - 1) (w.toInt + 9) d.toInt) ∧ (2 < w.toInt → z.toInt = own_ref u.toInt (w.toInt - 3) d.toInt)) h0) T (mkF m 110 #[.val (.int u), .val (.int w), .val (.int d), .val (.long z1), .second, .val (.long z2), .second, .val (.long z4), .second, .val (.long z6), .second, .val (.long z12), .second, .val (.long z18), .second] [(.long z21)])) ?_
      intro z21 hz21
      have tz21 : z21.toInt = z20.toInt - (719468 : Int) := n_lsub hz21 rfl rfl (by omega)
      refine retL P d4_110 (by decide) (by decide) ?_
      refine RetJ.mk ⟨fun q => ?_, fun q => ?_⟩
      · first
        | (exfalso; omega)
        | (have k1 : z1.toInt = (u.toInt - 1) := by omega
           have k2 : z2.toInt = (u.toInt - 1) / 400 := by omega
           have k3 : z4.toInt = (u.toInt - 1) - (u.toInt - 1) / 400 * 400 := by omega
           have k4 : z6.toInt = (w.toInt + 9) := by omega
           have k5 : z12.toInt = (153 * (w.toInt + 9) + 2) / 5 + d.toInt - 1 := by omega
           have k6 : z18.toInt = z4.toInt * 365 + z4.toInt / 4 - z4.toInt / 100 + z12.toInt := by omega
           have k7 : z21.toInt = z2.toInt * 146097 + z18.toInt - 719468 := by omega
           unfold own_ref
           rw [k7, k6, k5, k3, k2]
           try omega)
      · first
        | (exfalso; omega)
        | (have k1 : z1.toInt = u.toInt := by omega
           have k2 : z2.toInt = u.toInt / 400 := by omega
           have k3 : z4.toInt = u.toInt - u.toInt / 400 * 400 := by omega
           have k4 : z6.toInt = (w.toInt - 3) := by omega
           have k5 : z12.toInt = (153 * (w.toInt - 3) + 2) / 5 + d.toInt - 1 := by omega
           have k6 : z18.toInt = z4.toInt * 365 + z4.toInt / 4 - z4.toInt / 100 + z12.toInt := by omega
           have k7 : z21.toInt = z2.toInt * 146097 + z18.toInt - 719468 := by omega
           unfold own_ref
           rw [k7, k6, k5, k3, k2]
           try omega)
    · -- pc 34 not taken
      replace hc34 : (2 : Int) < w.toInt := hc34
      refine iloadN P d4_37 rfl (n := 38) rfl ?_
      refine iconst P d4_38 (x := (3 : Int32)) rfl (n := 39) rfl ?_
      refine isub P d4_39 (n := 40) rfl ?_
      refine nameI (x := (w - (3 : Int32))) (F := fun z22 => Jvm.Own.Ends p e below s rm_c_ref n0 (RetJ (fun z => (w.toInt ≤ 2 → z.toInt = own_ref (u.toInt - 1) (w.toInt + 9) d.toInt) ∧ (2 < w.toInt → z.toInt = own_ref u.toInt (w.toInt - 3) d.toInt)) h0) T (mkF m 40 #[.val (.int u), .val (.int w), .val (.int d), .val (.long z1), .second, .val (.long z2), .second, .val (.long z4), .second, .unset, .unset, .unset, .unset, .unset, .unset] [(.int z22)])) ?_
      intro z22 hz22
      have tz22 : z22.toInt = w.toInt - (3 : Int) := n_isub hz22 rfl rfl (by omega)
      refine i2l P d4_40 (n := 41) rfl ?_
      refine nameI (x := (z22.toInt64)) (F := fun z23 => Jvm.Own.Ends p e below s rm_c_ref n0 (RetJ (fun z => (w.toInt ≤ 2 → z.toInt = own_ref (u.toInt - 1) (w.toInt + 9) d.toInt) ∧ (2 < w.toInt → z.toInt = own_ref u.toInt (w.toInt - 3) d.toInt)) h0) T (mkF m 41 #[.val (.int u), .val (.int w), .val (.int d), .val (.long z1), .second, .val (.long z2), .second, .val (.long z4), .second, .unset, .unset, .unset, .unset, .unset, .unset] [(.long z23)])) ?_
      intro z23 hz23
      have tz23 : z23.toInt = z22.toInt := n_i2l hz23 rfl
      refine goto P d4_41 (n := 49) (by decide) ?_
      refine lstore P d4_49 (l' := #[.val (.int u), .val (.int w), .val (.int d), .val (.long z1), .second, .val (.long z2), .second, .val (.long z4), .second, .val (.long z23), .second, .unset, .unset, .unset, .unset]) rfl (n := 51) rfl ?_
      refine ldc2J P d4_51 (hw _ (List.mem_of_getElem? (i := 23) rfl)) (n := 54) rfl ?_
      refine lload P d4_54 rfl (n := 56) rfl ?_
      refine lmul P d4_56 (n := 57) rfl ?_
      refine nameI (x := ((153 : Int64) * z23)) (F := fun z24 => Jvm.Own.Ends p e below s rm_c_ref n0 (RetJ (fun z => (w.toInt ≤ 2 → z.toInt = own_ref (u.toInt - 1) (w.toInt + 9) d.toInt) ∧ (2 < w.toInt → z.toInt = own_ref u.toInt (w.toInt - 3) d.toInt)) h0) T (mkF m 57 #[.val (.int u), .val (.int w), .val (.int d), .val (.long z1), .second, .val (.long z2), .second, .val (.long z4), .second, .val (.long z23), .second, .unset, .unset, .unset, .unset] [(.long z24)])) ?_
      intro z24 hz24
      have tz24 : z24.toInt = (153 : Int) * z23.toInt := n_lmul hz24 rfl rfl (by omega)
      refine ldc2J P d4_57 (hw _ (List.mem_of_getElem? (i := 24) rfl)) (n := 60) rfl ?_
      refine ladd P d4_60 (n := 61) rfl ?_
      refine nameI (x := (z24 + (2 : Int64))) (F := fun z25 => Jvm.Own.Ends p e below s rm_c_ref n0 (RetJ (fun z => (w.toInt ≤ 2 → z.toInt = own_ref (u.toInt - 1) (w.toInt + 9) d.toInt) ∧ (2 < w.toInt → z.toInt = own_ref u.toInt (w.toInt - 3) d.toInt)) h0) T (mkF m 61 #[.val (.int u), .val (.int w), .val (.int d), .val (.long z1), .second, .val (.long z2), .second, .val (.long z4), .second, .val (.long z23), .second, .unset, .unset, .unset, .unset] [(.long z25)])) ?_
      intro z25 hz25
      have tz25 : z25.toInt = z24.toInt + (2 : Int) := n_ladd hz25 rfl rfl (by omega)
      refine ldc2J P d4_61 (hw _ (List.mem_of_getElem? (i := 25) rfl)) (n := 64) rfl ?_
      refine ldiv P d4_64 (by decide) (n := 65) rfl ?_
      refine nameI (x := (z25 / (5 : Int64))) (F := fun z26 => Jvm.Own.Ends p e below s rm_c_ref n0 (RetJ (fun z => (w.toInt ≤ 2 → z.toInt = own_ref (u.toInt - 1) (w.toInt + 9) d.toInt) ∧ (2 < w.toInt → z.toInt = own_ref u.toInt (w.toInt - 3) d.toInt)) h0) T (mkF m 65 #[.val (.int u), .val (.int w), .val (.int d), .val (.long z1), .second, .val (.long z2), .second, .val (.long z4), .second, .val (.long z23), .second, .unset, .unset, .unset, .unset] [(.long z26)])) ?_
      intro z26 hz26
      have tz26 : z26.toInt = z25.toInt / (5 : Int) := n_ldiv hz26 rfl rfl (by omega)
      refine iloadN P d4_65 rfl (n := 66) rfl ?_
      refine i2l P d4_66 (n := 67) rfl ?_
      refine nameI (x := (d.toInt64)) (F := fun z27 => Jvm.Own.Ends p e below s rm_c_ref n0 (RetJ (fun z => (w.toInt ≤ 2 → z.toInt = own_ref (u.toInt - 1) (w.toInt + 9) d.toInt) ∧ (2 < w.toInt → z.toInt = own_ref u.toInt (w.toInt - 3) d.toInt)) h0) T (mkF m 67 #[.val (.int u), .val (.int w), .val (.int d), .val (.long z1), .second, .val (.long z2), .second, .val (.long z4), .second, .val (.long z23), .second, .unset, .unset, .unset, .unset] [(.long z27), (.long z26)])) ?_
      intro z27 hz27
      have tz27 : z27.toInt = d.toInt := n_i2l hz27 rfl
      refine ladd P d4_67 (n := 68) rfl ?_
      refine nameI (x := (z26 + z27)) (F := fun z28 => Jvm.Own.Ends p e below s rm_c_ref n0 (RetJ (fun z => (w.toInt ≤ 2 → z.toInt = own_ref (u.toInt - 1) (w.toInt + 9) d.toInt) ∧ (2 < w.toInt → z.toInt = own_ref u.toInt (w.toInt - 3) d.toInt)) h0) T (mkF m 68 #[.val (.int u), .val (.int w), .val (.int d), .val (.long z1), .second, .val (.long z2), .second, .val (.long z4), .second, .val (.long z23), .second, .unset, .unset, .unset, .unset] [(.long z28)])) ?_
      intro z28 hz28
      have tz28 : z28.toInt = z26.toInt + z27.toInt := n_ladd hz28 rfl rfl (by omega)
      refine lconst P d4_68 (x := (1 : Int64)) rfl (n := 69) rfl ?_
      refine lsub P d4_69 (n := 70) rfl ?_
      refine nameI (x := (z28 - (1 : Int64))) (F := fun z29 => Jvm.Own.Ends p e below s rm_c_ref n0 (RetJ (fun z => (w.toInt ≤ 2 → z.toInt = own_ref (u.toInt - 1) (w.toInt + 9) d.toInt) ∧ (2 < w.toInt → z.toInt = own_ref u.toInt (w.toInt - 3) d.toInt)) h0) T (mkF m 70 #[.val (.int u), .val (.int w), .val (.int d), .val (.long z1), .second, .val (.long z2), .second, .val (.long z4), .second, .val (.long z23), .second, .unset, .unset, .unset, .unset] [(.long z29)])) ?_
      intro z29 hz29
      have tz29 : z29.toInt = z28.toInt - (1 : Int) := n_lsub hz29 rfl rfl (by omega)
      refine lstore P d4_70 (l' := #[.val (.int u), .val (.int w), .val (.int d), .val (.long z1), .second, .val (.long z2), .second, .val (.long z4), .second, .val (.long z23), .second, .val (.long z29), .second, .unset, .unset]) rfl (n := 72) rfl ?_
      refine lload P d4_72 rfl (n := 74) rfl ?_
      refine ldc2J P d4_74 (hw _ (List.mem_of_getElem? (i := 26) rfl)) (n := 77) rfl ?_
      refine lmul P d4_77 (n := 78) rfl ?_
      refine nameI (x := (z4 * (365 : Int64))) (F := fun z30 => Jvm.Own.Ends p e below s rm_c_ref n0 (RetJ (fun z => (w.toInt ≤ 2 → z.toInt = own_ref (u.toInt - 1) (w.toInt + 9) d.toInt) ∧ (2 < w.toInt → z.toInt = own_ref u.toInt (w.toInt - 3) d.toInt)) h0) T (mkF m 78 #[.val (.int u), .val (.int w), .val (.int d), .val (.long z1), .second, .val (.long z2), .second, .val (.long z4), .second, .val (.long z23), .second, .val (.long z29), .second, .unset, .unset] [(.long z30)])) ?_
      intro z30 hz30
      have tz30 : z30.toInt = z4.toInt * (365 : Int) := n_lmul hz30 rfl rfl (by omega)
      refine lload P d4_78 rfl (n := 80) rfl ?_
      refine ldc2J P d4_80 (hw _ (List.mem_of_getElem? (i := 27) rfl)) (n := 83) rfl ?_
      refine ldiv P d4_83 (by decide) (n := 84) rfl ?_
      refine nameI (x := (z4 / (4 : Int64))) (F := fun z31 => Jvm.Own.Ends p e below s rm_c_ref n0 (RetJ (fun z => (w.toInt ≤ 2 → z.toInt = own_ref (u.toInt - 1) (w.toInt + 9) d.toInt) ∧ (2 < w.toInt → z.toInt = own_ref u.toInt (w.toInt - 3) d.toInt)) h0) T (mkF m 84 #[.val (.int u), .val (.int w), .val (.int d), .val (.long z1), .second, .val (.long z2), .second, .val (.long z4), .second, .val (.long z23), .second, .val (.long z29), .second, .unset, .unset] [(.long z31), (.long z30)])) ?_
      intro z31 hz31
      have tz31 : z31.toInt = z4.toInt / (4 : Int) := n_ldiv hz31 rfl rfl (by omega)
      refine ladd P d4_84 (n := 85) rfl ?_
      refine nameI (x := (z30 + z31)) (F := fun z32 => Jvm.Own.Ends p e below s rm_c_ref n0 (RetJ (fun z => (w.toInt ≤ 2 → z.toInt = own_ref (u.toInt - 1) (w.toInt + 9) d.toInt) ∧ (2 < w.toInt → z.toInt = own_ref u.toInt (w.toInt - 3) d.toInt)) h0) T (mkF m 85 #[.val (.int u), .val (.int w), .val (.int d), .val (.long z1), .second, .val (.long z2), .second, .val (.long z4), .second, .val (.long z23), .second, .val (.long z29), .second, .unset, .unset] [(.long z32)])) ?_
      intro z32 hz32
      have tz32 : z32.toInt = z30.toInt + z31.toInt := n_ladd hz32 rfl rfl (by omega)
      refine lload P d4_85 rfl (n := 87) rfl ?_
      refine ldc2J P d4_87 (hw _ (List.mem_of_getElem? (i := 28) rfl)) (n := 90) rfl ?_
      refine ldiv P d4_90 (by decide) (n := 91) rfl ?_
      refine nameI (x := (z4 / (100 : Int64))) (F := fun z33 => Jvm.Own.Ends p e below s rm_c_ref n0 (RetJ (fun z => (w.toInt ≤ 2 → z.toInt = own_ref (u.toInt - 1) (w.toInt + 9) d.toInt) ∧ (2 < w.toInt → z.toInt = own_ref u.toInt (w.toInt - 3) d.toInt)) h0) T (mkF m 91 #[.val (.int u), .val (.int w), .val (.int d), .val (.long z1), .second, .val (.long z2), .second, .val (.long z4), .second, .val (.long z23), .second, .val (.long z29), .second, .unset, .unset] [(.long z33), (.long z32)])) ?_
      intro z33 hz33
      have tz33 : z33.toInt = z4.toInt / (100 : Int) := n_ldiv hz33 rfl rfl (by omega)
      refine lsub P d4_91 (n := 92) rfl ?_
      refine nameI (x := (z32 - z33)) (F := fun z34 => Jvm.Own.Ends p e below s rm_c_ref n0 (RetJ (fun z => (w.toInt ≤ 2 → z.toInt = own_ref (u.toInt - 1) (w.toInt + 9) d.toInt) ∧ (2 < w.toInt → z.toInt = own_ref u.toInt (w.toInt - 3) d.toInt)) h0) T (mkF m 92 #[.val (.int u), .val (.int w), .val (.int d), .val (.long z1), .second, .val (.long z2), .second, .val (.long z4), .second, .val (.long z23), .second, .val (.long z29), .second, .unset, .unset] [(.long z34)])) ?_
      intro z34 hz34
      have tz34 : z34.toInt = z32.toInt - z33.toInt := n_lsub hz34 rfl rfl (by omega)
      refine lload P d4_92 rfl (n := 94) rfl ?_
      refine ladd P d4_94 (n := 95) rfl ?_
      refine nameI (x := (z34 + z29)) (F := fun z35 => Jvm.Own.Ends p e below s rm_c_ref n0 (RetJ (fun z => (w.toInt ≤ 2 → z.toInt = own_ref (u.toInt - 1) (w.toInt + 9) d.toInt) ∧ (2 < w.toInt → z.toInt = own_ref u.toInt (w.toInt - 3) d.toInt)) h0) T (mkF m 95 #[.val (.int u), .val (.int w), .val (.int d), .val (.long z1), .second, .val (.long z2), .second, .val (.long z4), .second, .val (.long z23), .second, .val (.long z29), .second, .unset, .unset] [(.long z35)])) ?_
      intro z35 hz35
      have tz35 : z35.toInt = z34.toInt + z29.toInt := n_ladd hz35 rfl rfl (by omega)
      refine lstore P d4_95 (l' := #[.val (.int u), .val (.int w), .val (.int d), .val (.long z1), .second, .val (.long z2), .second, .val (.long z4), .second, .val (.long z23), .second, .val (.long z29), .second, .val (.long z35), .second]) rfl (n := 97) rfl ?_
      refine lload P d4_97 rfl (n := 99) rfl ?_
      refine ldc2J P d4_99 (hw _ (List.mem_of_getElem? (i := 29) rfl)) (n := 102) rfl ?_
      refine lmul P d4_102 (n := 103) rfl ?_
      refine nameI (x := (z2 * (146097 : Int64))) (F := fun z36 => Jvm.Own.Ends p e below s rm_c_ref n0 (RetJ (fun z => (w.toInt ≤ 2 → z.toInt = own_ref (u.toInt - 1) (w.toInt + 9) d.toInt) ∧ (2 < w.toInt → z.toInt = own_ref u.toInt (w.toInt - 3) d.toInt)) h0) T (mkF m 103 #[.val (.int u), .val (.int w), .val (.int d), .val (.long z1), .second, .val (.long z2), .second, .val (.long z4), .second, .val (.long z23), .second, .val (.long z29), .second, .val (.long z35), .second] [(.long z36)])) ?_
      intro z36 hz36
      have tz36 : z36.toInt = z2.toInt * (146097 : Int) := n_lmul hz36 rfl rfl (by omega)
      refine lload P d4_103 rfl (n := 105) rfl ?_
      refine ladd P d4_105 (n := 106) rfl ?_
      refine nameI (x := (z36 + z35)) (F := fun z37 => Jvm.Own.Ends p e below s rm_c_ref n0 (RetJ (fun z => (w.toInt ≤ 2 → z.toInt = own_ref (u.toInt - 1) (w.toInt + 9) d.toInt) ∧ (2 < w.toInt → z.toInt = own_ref u.toInt (w.toInt - 3) d.toInt)) h0) T (mkF m 106 #[.val (.int u), .val (.int w), .val (.int d), .val (.long z1), .second, .val (.long z2), .second, .val (.long z4), .second, .val (.long z23), .second, .val (.long z29), .second, .val (.long z35), .second] [(.long z37)])) ?_
      intro z37 hz37
      have tz37 : z37.toInt = z36.toInt + z35.toInt := n_ladd hz37 rfl rfl (by omega)
      refine ldc2J P d4_106 (hw _ (List.mem_of_getElem? (i := 30) rfl)) (n := 109) rfl ?_
      refine lsub P d4_109 (n := 110) rfl ?_
      refine nameI (x := (z37 - (719468 : Int64))) (F := fun z38 => Jvm.Own.Ends p e below s rm_c_ref n0 (RetJ (fun z => (w.toInt ≤ 2 → z.toInt = own_ref (u.toInt - 1) (w.toInt + 9) d.toInt) ∧ (2 < w.toInt → z.toInt = own_ref u.toInt (w.toInt - 3) d.toInt)) h0) T (mkF m 110 #[.val (.int u), .val (.int w), .val (.int d), .val (.long z1), .second, .val (.long z2), .second, .val (.long z4), .second, .val (.long z23), .second, .val (.long z29), .second, .val (.long z35), .second] [(.long z38)])) ?_
      intro z38 hz38
      have tz38 : z38.toInt = z37.toInt - (719468 : Int) := n_lsub hz38 rfl rfl (by omega)
      refine retL P d4_110 (by decide) (by decide) ?_
      refine RetJ.mk ⟨fun q => ?_, fun q => ?_⟩
      · first
        | (exfalso; omega)
        | (have k1 : z1.toInt = (u.toInt - 1) := by omega
           have k2 : z2.toInt = (u.toInt - 1) / 400 := by omega
           have k3 : z4.toInt = (u.toInt - 1) - (u.toInt - 1) / 400 * 400 := by omega
           have k4 : z23.toInt = (w.toInt + 9) := by omega
           have k5 : z29.toInt = (153 * (w.toInt + 9) + 2) / 5 + d.toInt - 1 := by omega
           have k6 : z35.toInt = z4.toInt * 365 + z4.toInt / 4 - z4.toInt / 100 + z29.toInt := by omega
           have k7 : z38.toInt = z2.toInt * 146097 + z35.toInt - 719468 := by omega
           unfold own_ref
           rw [k7, k6, k5, k3, k2]
           try omega)
      · first
        | (exfalso; omega)
        | (have k1 : z1.toInt = u.toInt := by omega
           have k2 : z2.toInt = u.toInt / 400 := by omega
           have k3 : z4.toInt = u.toInt - u.toInt / 400 * 400 := by omega
           have k4 : z23.toInt = (w.toInt - 3) := by omega
           have k5 : z29.toInt = (153 * (w.toInt - 3) + 2) / 5 + d.toInt - 1 := by omega
           have k6 : z35.toInt = z4.toInt * 365 + z4.toInt / 4 - z4.toInt / 100 + z29.toInt := by omega
           have k7 : z38.toInt = z2.toInt * 146097 + z35.toInt - 719468 := by omega
           unfold own_ref
           rw [k7, k6, k5, k3, k2]
           try omega)
  · -- pc 2 not taken
    replace hc2 : w.toInt ≤ (2 : Int) := hc2
    refine iloadN P d4_5 rfl (n := 6) rfl ?_
    refine i2l P d4_6 (n := 7) rfl ?_
    refine nameI (x := (u.toInt64)) (F := fun z39 => Jvm.Own.Ends p e below s rm_c_ref n0 (RetJ (fun z => (w.toInt ≤ 2 → z.toInt = own_ref (u.toInt - 1) (w.toInt + 9) d.toInt) ∧ (2 < w.toInt → z.toInt = own_ref u.toInt (w.toInt - 3) d.toInt)) h0) T (mkF m 7 #[.val (.int u), .val (.int w), .val (.int d), .unset, .unset, .unset, .unset, .unset, .unset, .unset, .unset, .unset, .unset, .unset, .unset] [(.long z39)])) ?_
    intro z39 hz39
    have tz39 : z39.toInt = u.toInt := n_i2l hz39 rfl
    refine lconst P d4_7 (x := (1 : Int64)) rfl (n := 8) rfl ?_
    refine lsub P d4_8 (n := 9) rfl ?_
    refine nameI (x := (z39 - (1 : Int64))) (F := fun z40 => Jvm.Own.Ends p e below s rm_c_ref n0 (RetJ (fun z => (w.toInt ≤ 2 → z.toInt = own_ref (u.toInt - 1) (w.toInt + 9) d.toInt) ∧ (2 < w.toInt → z.toInt = own_ref u.toInt (w.toInt - 3) d.toInt)) h0) T (mkF m 9 #[.val (.int u), .val (.int w), .val (.int d), .unset, .unset, .unset, .unset, .unset, .unset, .unset, .unset, .unset, .unset, .unset, .unset] [(.long z40)])) ?_
    intro z40 hz40
    have tz40 : z40.toInt = z39.toInt - (1 : Int) := n_lsub hz40 rfl rfl (by omega)
    refine goto P d4_9 (n := 14) (by decide) ?_
    refine lstoreN P d4_14 (l' := #[.val (.int u), .val (.int w), .val (.int d), .val (.long z40), .second, .unset, .unset, .unset, .unset, .unset, .unset, .unset, .unset, .unset, .unset]) rfl (n := 15) rfl ?_
    refine lloadN P d4_15 rfl (n := 16) rfl ?_
    refine ldc2J P d4_16 (hw _ (List.mem_of_getElem? (i := 22) rfl)) (n := 19) rfl ?_
    refine ldiv P d4_19 (by decide) (n := 20) rfl ?_
    refine nameI (x := (z40 / (400 : Int64))) (F := fun z41 => Jvm.Own.Ends p e below s rm_c_ref n0 (RetJ (fun z => (w.toInt ≤ 2 → z.toInt = own_ref (u.toInt - 1) (w.toInt + 9) d.toInt) ∧ (2 < w.toInt → z.toInt = own_ref u.toInt (w.toInt - 3) d.toInt)) h0) T (mkF m 20 #[.val (.int u), .val (.int w), .val (.int d), .val (.long z40), .second, .unset, .unset, .unset, .unset, .unset, .unset, .unset, .unset, .unset, .unset] [(.long z41)])) ?_
    intro z41 hz41
    have tz41 : z41.toInt = z40.toInt / (400 : Int) := n_ldiv hz41 rfl rfl (by omega)
    refine lstore P d4_20 (l' := #[.val (.int u), .val (.int w), .val (.int d), .val (.long z40), .second, .val (.long z41), .second, .unset, .unset, .unset, .unset, .unset, .unset, .unset, .unset]) rfl (n := 22) rfl ?_
    refine lloadN P d4_22 rfl (n := 23) rfl ?_
    refine lload P d4_23 rfl (n := 25) rfl ?_
    refine ldc2J P d4_25 (hw _ (List.mem_of_getElem? (i := 22) rfl)) (n := 28) rfl ?_
    refine lmul P d4_28 (n := 29) rfl ?_
    refine nameI (x := (z41 * (400 : Int64))) (F := fun z42 => Jvm.Own.Ends p e below s rm_c_ref n0 (RetJ (fun z => (w.toInt ≤ 2 → z.toInt = own_ref (u.toInt - 1) (w.toInt + 9) d.toInt) ∧ (2 < w.toInt → z.toInt = own_ref u.toInt (w.toInt - 3) d.toInt)) h0) T (mkF m 29 #[.val (.int u), .val (.int w), .val (.int d), .val (.long z40), .second, .val (.long z41), .second, .unset, .unset, .unset, .unset, .unset, .unset, .unset, .unset] [(.long z42), (.long z40)])) ?_
    intro z42 hz42
    have tz42 : z42.toInt = z41.toInt * (400 : Int) := n_lmul hz42 rfl rfl (by omega)
    refine lsub P d4_29 (n := 30) rfl ?_
    refine nameI (x := (z40 - z42)) (F := fun z43 => Jvm.Own.Ends p e below s rm_c_ref n0 (RetJ (fun z => (w.toInt ≤ 2 → z.toInt = own_ref (u.toInt - 1) (w.toInt + 9) d.toInt) ∧ (2 < w.toInt → z.toInt = own_ref u.toInt (w.toInt - 3) d.toInt)) h0) T (mkF m 30 #[.val (.int u), .val (.int w), .val (.int d), .val (.long z40), .second, .val (.long z41), .second, .unset, .unset, .unset, .unset, .unset, .unset, .unset, .unset] [(.long z43)])) ?_
    intro z43 hz43
    have tz43 : z43.toInt = z40.toInt - z42.toInt := n_lsub hz43 rfl rfl (by omega)
    refine lstore P d4_30 (l' := #[.val (.int u), .val (.int w), .val (.int d), .val (.long z40), .second, .val (.long z41), .second, .val (.long z43), .second, .unset, .unset, .unset, .unset, .unset, .unset]) rfl (n := 32) rfl ?_
    refine iloadN P d4_32 rfl (n := 33) rfl ?_
    refine iconst P d4_33 (x := (2 : Int32)) rfl (n := 34) rfl ?_
    refine icmp_le P d4_34 (n' := 44) (n := 37) (by decide) rfl (fun hc34 => ?_) (fun hc34 => ?_)
    · -- pc 34 taken
      replace hc34 : w.toInt ≤ (2 : Int) := hc34
      refine iloadN P d4_44 rfl (n := 45) rfl ?_
      refine bipush P d4_45 (x := (9 : Int32)) rfl (n := 47) rfl ?_
      refine iadd P d4_47 (n := 48) rfl ?_
      refine nameI (x := (w + (9 : Int32))) (F := fun z44 => Jvm.Own.Ends p e below s rm_c_ref n0 (RetJ (fun z => (w.toInt ≤ 2 → z.toInt = own_ref (u.toInt - 1) (w.toInt + 9) d.toInt) ∧ (2 < w.toInt → z.toInt = own_ref u.toInt (w.toInt - 3) d.toInt)) h0) T (mkF m 48 #[.val (.int u), .val (.int w), .val (.int d), .val (.long z40), .second, .val (.long z41), .second, .val (.long z43), .second, .unset, .unset, .unset, .unset, .unset, .unset] [(.int z44)])) ?_
      intro z44 hz44
      have tz44 : z44.toInt = w.toInt + (9 : Int) := n_iadd hz44 rfl rfl (by omega)
      refine i2l P d4_48 (n := 49) rfl ?_
      refine nameI (x := (z44.toInt64)) (F := fun z45 => Jvm.Own.Ends p e below s rm_c_ref n0 (RetJ (fun z => (w.toInt ≤ 2 → z.toInt = own_ref (u.toInt - 1) (w.toInt + 9) d.toInt) ∧ (2 < w.toInt → z.toInt = own_ref u.toInt (w.toInt - 3) d.toInt)) h0) T (mkF m 49 #[.val (.int u), .val (.int w), .val (.int d), .val (.long z40), .second, .val (.long z41), .second, .val (.long z43), .second, .unset, .unset, .unset, .unset, .unset, .unset] [(.long z45)])) ?_
      intro z45 hz45
      have tz45 : z45.toInt = z44.toInt := n_i2l hz45 rfl
      refine lstore P d4_49 (l' := #[.val (.int u), .val (.int w), .val (.int d), .val (.long z40), .second, .val (.long z41), .second, .val (.long z43), .second, .val (.long z45), .second, .unset, .unset, .unset, .unset]) rfl (n := 51) rfl ?_
      refine ldc2J P d4_51 (hw _ (List.mem_of_getElem? (i := 23) rfl)) (n := 54) rfl ?_
      refine lload P d4_54 rfl (n := 56) rfl ?_
      refine lmul P d4_56 (n := 57) rfl ?_
      refine nameI (x := ((153 : Int64) * z45)) (F := fun z46 => Jvm.Own.Ends p e below s rm_c_ref n0 (RetJ (fun z => (w.toInt ≤ 2 → z.toInt = own_ref (u.toInt - 1) (w.toInt + 9) d.toInt) ∧ (2 < w.toInt → z.toInt = own_ref u.toInt (w.toInt - 3) d.toInt)) h0) T (mkF m 57 #[.val (.int u), .val (.int w), .val (.int d), .val (.long z40), .second, .val (.long z41), .second, .val (.long z43), .second, .val (.long z45), .second, .unset, .unset, .unset, .unset] [(.long z46)])) ?_
      intro z46 hz46
      have tz46 : z46.toInt = (153 : Int) * z45.toInt := n_lmul hz46 rfl rfl (by omega)
      refine ldc2J P d4_57 (hw _ (List.mem_of_getElem? (i := 24) rfl)) (n := 60) rfl ?_
      refine ladd P d4_60 (n := 61) rfl ?_
      refine nameI (x := (z46 + (2 : Int64))) (F := fun z47 => Jvm.Own.Ends p e below s rm_c_ref n0 (RetJ (fun z => (w.toInt ≤ 2 → z.toInt = own_ref (u.toInt - 1) (w.toInt + 9) d.toInt) ∧ (2 < w.toInt → z.toInt = own_ref u.toInt (w.toInt - 3) d.toInt)) h0) T (mkF m 61 #[.val (.int u), .val (.int w), .val (.int d), .val (.long z40), .second, .val (.long z41), .second, .val (.long z43), .second, .val (.long z45), .second, .unset, .unset, .unset, .unset] [(.long z47)])) ?_
      intro z47 hz47
      have tz47 : z47.toInt = z46.toInt + (2 : Int) := n_ladd hz47 rfl rfl (by omega)
      refine ldc2J P d4_61 (hw _ (List.mem_of_getElem? (i := 25) rfl)) (n := 64) rfl ?_
      refine ldiv P d4_64 (by decide) (n := 65) rfl ?_
      refine nameI (x := (z47 / (5 : Int64))) (F := fun z48 => Jvm.Own.Ends p e below s rm_c_ref n0 (RetJ (fun z => (w.toInt ≤ 2 → z.toInt = own_ref (u.toInt - 1) (w.toInt + 9) d.toInt) ∧ (2 < w.toInt → z.toInt = own_ref u.toInt (w.toInt - 3) d.toInt)) h0) T (mkF m 65 #[.val (.int u), .val (.int w), .val (.int d), .val (.long z40), .second, .val (.long z41), .second, .val (.long z43), .second, .val (.long z45), .second, .unset, .unset, .unset, .unset] [(.long z48)])) ?_
      intro z48 hz48
      have tz48 : z48.toInt = z47.toInt / (5 : Int) := n_ldiv hz48 rfl rfl (by omega)
      refine iloadN P d4_65 rfl (n := 66) rfl ?_
      refine i2l P d4_66 (n := 67) rfl ?_
      refine nameI (x := (d.toInt64)) (F := fun z49 => Jvm.Own.Ends p e below s rm_c_ref n0 (RetJ (fun z => (w.toInt ≤ 2 → z.toInt = own_ref (u.toInt - 1) (w.toInt + 9) d.toInt) ∧ (2 < w.toInt → z.toInt = own_ref u.toInt (w.toInt - 3) d.toInt)) h0) T (mkF m 67 #[.val (.int u), .val (.int w), .val (.int d), .val (.long z40), .second, .val (.long z41), .second, .val (.long z43), .second, .val (.long z45), .second, .unset, .unset, .unset, .unset] [(.long z49), (.long z48)])) ?_
      intro z49 hz49
      have tz49 : z49.toInt = d.toInt := n_i2l hz49 rfl
      refine ladd P d4_67 (n := 68) rfl ?_
      refine nameI (x := (z48 + z49)) (F := fun z50 => Jvm.Own.Ends p e below s rm_c_ref n0 (RetJ (fun z => (w.toInt ≤ 2 → z.toInt = own_ref (u.toInt - 1) (w.toInt + 9) d.toInt) ∧ (2 < w.toInt → z.toInt = own_ref u.toInt (w.toInt - 3) d.toInt)) h0) T (mkF m 68 #[.val (.int u), .val (.int w), .val (.int d), .val (.long z40), .second, .val (.long z41), .second, .val (.long z43), .second, .val (.long z45), .second, .unset, .unset, .unset, .unset] [(.long z50)])) ?_
      intro z50 hz50
      have tz50 : z50.toInt = z48.toInt + z49.toInt := n_ladd hz50 rfl rfl (by omega)
      refine lconst P d4_68 (x := (1 : Int64)) rfl (n := 69) rfl ?_
      refine lsub P d4_69 (n := 70) rfl ?_
      refine nameI (x := (z50 - (1 : Int64))) (F := fun z51 => Jvm.Own.Ends p e below s rm_c_ref n0 (RetJ (fun z => (w.toInt ≤ 2 → z.toInt = own_ref (u.toInt - 1) (w.toInt + 9) d.toInt) ∧ (2 < w.toInt → z.toInt = own_ref u.toInt (w.toInt - 3) d.toInt)) h0) T (mkF m 70 #[.val (.int u), .val (.int w), .val (.int d), .val (.long z40), .second, .val (.long z41), .second, .val (.long z43), .second, .val (.long z45), .second, .unset, .unset, .unset, .unset] [(.long z51)])) ?_
      intro z51 hz51
      have tz51 : z51.toInt = z50.toInt - (1 : Int) := n_lsub hz51 rfl rfl (by omega)
      refine lstore P d4_70 (l' := #[.val (.int u), .val (.int w), .val (.int d), .val (.long z40), .second, .val (.long z41), .second, .val (.long z43), .second, .val (.long z45), .second, .val (.long z51), .second, .unset, .unset]) rfl (n := 72) rfl ?_
      refine lload P d4_72 rfl (n := 74) rfl ?_
      refine ldc2J P d4_74 (hw _ (List.mem_of_getElem? (i := 26) rfl)) (n := 77) rfl ?_
      refine lmul P d4_77 (n := 78) rfl ?_
      refine nameI (x := (z43 * (365 : Int64))) (F := fun z52 => Jvm.Own.Ends p e below s rm_c_ref n0 (RetJ (fun z => (w.toInt ≤ 2 → z.toInt = own_ref (u.toInt - 1) (w.toInt + 9) d.toInt) ∧ (2 < w.toInt → z.toInt = own_ref u.toInt (w.toInt - 3) d.toInt)) h0) T (mkF m 78 #[.val (.int u), .val (.int w), .val (.int d), .val (.long z40), .second, .val (.long z41), .second, .val (.long z43), .second, .val (.long z45), .second, .val (.long z51), .second, .unset, .unset] [(.long z52)])) ?_
      intro z52 hz52
      have tz52 : z52.toInt = z43.toInt * (365 : Int) := n_lmul hz52 rfl rfl (by omega)
      refine lload P d4_78 rfl (n := 80) rfl ?_
      refine ldc2J P d4_80 (hw _ (List.mem_of_getElem? (i := 27) rfl)) (n := 83) rfl ?_
      refine ldiv P d4_83 (by decide) (n := 84) rfl ?_
      refine nameI (x := (z43 / (4 : Int64))) (F := fun z53 => Jvm.Own.Ends p e below s rm_c_ref n0 (RetJ (fun z => (w.toInt ≤ 2 → z.toInt = own_ref (u.toInt - 1) (w.toInt + 9) d.toInt) ∧ (2 < w.toInt → z.toInt = own_ref u.toInt (w.toInt - 3) d.toInt)) h0) T (mkF m 84 #[.val (.int u), .val (.int w), .val (.int d), .val (.long z40), .second, .val (.long z41), .second, .val (.long z43), .second, .val (.long z45), .second, .val (.long z51), .second, .unset, .unset] [(.long z53), (.long z52)])) ?_
      intro z53 hz53
      have tz53 : z53.toInt = z43.toInt / (4 : Int) := n_ldiv hz53 rfl rfl (by omega)
      refine ladd P d4_84 (n := 85) rfl ?_
      refine nameI (x := (z52 + z53)) (F := fun z54 => Jvm.Own.Ends p e below s rm_c_ref n0 (RetJ (fun z => (w.toInt ≤ 2 → z.toInt = own_ref (u.toInt - 1) (w.toInt + 9) d.toInt) ∧ (2 < w.toInt → z.toInt = own_ref u.toInt (w.toInt - 3) d.toInt)) h0) T (mkF m 85 #[.val (.int u), .val (.int w), .val (.int d), .val (.long z40), .second, .val (.long z41), .second, .val (.long z43), .second, .val (.long z45), .second, .val (.long z51), .second, .unset, .unset] [(.long z54)])) ?_
      intro z54 hz54
      have tz54 : z54.toInt = z52.toInt + z53.toInt := n_ladd hz54 rfl rfl (by omega)
      refine lload P d4_85 rfl (n := 87) rfl ?_
      refine ldc2J P d4_87 (hw _ (List.mem_of_getElem? (i := 28) rfl)) (n := 90) rfl ?_
      refine ldiv P d4_90 (by decide) (n := 91) rfl ?_
      refine nameI (x := (z43 / (100 : Int64))) (F := fun z55 => Jvm.Own.Ends p e below s rm_c_ref n0 (RetJ (fun z => (w.toInt ≤ 2 → z.toInt = own_ref (u.toInt - 1) (w.toInt + 9) d.toInt) ∧ (2 < w.toInt → z.toInt = own_ref u.toInt (w.toInt - 3) d.toInt)) h0) T (mkF m 91 #[.val (.int u), .val (.int w), .val (.int d), .val (.long z40), .second, .val (.long z41), .second, .val (.long z43), .second, .val (.long z45), .second, .val (.long z51), .second, .unset, .unset] [(.long z55), (.long z54)])) ?_
      intro z55 hz55
      have tz55 : z55.toInt = z43.toInt / (100 : Int) := n_ldiv hz55 rfl rfl (by omega)
      refine lsub P d4_91 (n := 92) rfl ?_
      refine nameI (x := (z54 - z55)) (F := fun z56 => Jvm.Own.Ends p e below s rm_c_ref n0 (RetJ (fun z => (w.toInt ≤ 2 → z.toInt = own_ref (u.toInt - 1) (w.toInt + 9) d.toInt) ∧ (2 < w.toInt → z.toInt = own_ref u.toInt (w.toInt - 3) d.toInt)) h0) T (mkF m 92 #[.val (.int u), .val (.int w), .val (.int d), .val (.long z40), .second, .val (.long z41), .second, .val (.long z43), .second, .val (.long z45), .second, .val (.long z51), .second, .unset, .unset] [(.long z56)])) ?_
      intro z56 hz56
      have tz56 : z56.toInt = z54.toInt - z55.toInt := n_lsub hz56 rfl rfl (by omega)
      refine lload P d4_92 rfl (n := 94) rfl ?_
      refine ladd P d4_94 (n := 95) rfl ?_
      refine nameI (x := (z56 + z51)) (F := fun z57 => Jvm.Own.Ends p e below s rm_c_ref n0 (RetJ (fun z => (w.toInt ≤ 2 → z.toInt = own_ref (u.toInt - 1) (w.toInt + 9) d.toInt) ∧ (2 < w.toInt → z.toInt = own_ref u.toInt (w.toInt - 3) d.toInt)) h0) T (mkF m 95 #[.val (.int u), .val (.int w), .val (.int d), .val (.long z40), .second, .val (.long z41), .second, .val (.long z43), .second, .val (.long z45), .second, .val (.long z51), .second, .unset, .unset] [(.long z57)])) ?_
      intro z57 hz57
      have tz57 : z57.toInt = z56.toInt + z51.toInt := n_ladd hz57 rfl rfl (by omega)
      refine lstore P d4_95 (l' := #[.val (.int u), .val (.int w), .val (.int d), .val (.long z40), .second, .val (.long z41), .second, .val (.long z43), .second, .val (.long z45), .second, .val (.long z51), .second, .val (.long z57), .second]) rfl (n := 97) rfl ?_
      refine lload P d4_97 rfl (n := 99) rfl ?_
      refine ldc2J P d4_99 (hw _ (List.mem_of_getElem? (i := 29) rfl)) (n := 102) rfl ?_
      refine lmul P d4_102 (n := 103) rfl ?_
      refine nameI (x := (z41 * (146097 : Int64))) (F := fun z58 => Jvm.Own.Ends p e below s rm_c_ref n0 (RetJ (fun z => (w.toInt ≤ 2 → z.toInt = own_ref (u.toInt - 1) (w.toInt + 9) d.toInt) ∧ (2 < w.toInt → z.toInt = own_ref u.toInt (w.toInt - 3) d.toInt)) h0) T (mkF m 103 #[.val (.int u), .val (.int w), .val (.int d), .val (.long z40), .second, .val (.long z41), .second, .val (.long z43), .second, .val (.long z45), .second, .val (.long z51), .second, .val (.long z57), .second] [(.long z58)])) ?_
      intro z58 hz58
      have tz58 : z58.toInt = z41.toInt * (146097 : Int) := n_lmul hz58 rfl rfl (by omega)
      refine lload P d4_103 rfl (n := 105) rfl ?_
      refine ladd P d4_105 (n := 106) rfl ?_
      refine nameI (x := (z58 + z57)) (F := fun z59 => Jvm.Own.Ends p e below s rm_c_ref n0 (RetJ (fun z => (w.toInt ≤ 2 → z.toInt = own_ref (u.toInt - 1) (w.toInt + 9) d.toInt) ∧ (2 < w.toInt → z.toInt = own_ref u.toInt (w.toInt - 3) d.toInt)) h0) T (mkF m 106 #[.val (.int u), .val (.int w), .val (.int d), .val (.long z40), .second, .val (.long z41), .second, .val (.long z43), .second, .val (.long z45), .second, .val (.long z51), .second, .val (.long z57), .second] [(.long z59)])) ?_
      intro z59 hz59
      have tz59 : z59.toInt = z58.toInt + z57.toInt := n_ladd hz59 rfl rfl (by omega)
      refine ldc2J P d4_106 (hw _ (List.mem_of_getElem? (i := 30) rfl)) (n := 109) rfl ?_
      refine lsub P d4_109 (n := 110) rfl ?_
      refine nameI (x := (z59 - (719468 : Int64))) (F := fun z60 => Jvm.Own.Ends p e below s rm_c_ref n0 (RetJ (fun z => (w.toInt ≤ 2 → z.toInt = own_ref (u.toInt - 1) (w.toInt + 9) d.toInt) ∧ (2 < w.toInt → z.toInt = own_ref u.toInt (w.toInt - 3) d.toInt)) h0) T (mkF m 110 #[.val (.int u), .val (.int w), .val (.int d), .val (.long z40), .second, .val (.long z41), .second, .val (.long z43), .second, .val (.long z45), .second, .val (.long z51), .second, .val (.long z57), .second] [(.long z60)])) ?_
      intro z60 hz60
      have tz60 : z60.toInt = z59.toInt - (719468 : Int) := n_lsub hz60 rfl rfl (by omega)
      refine retL P d4_110 (by decide) (by decide) ?_
      refine RetJ.mk ⟨fun q => ?_, fun q => ?_⟩
      · first
        | (exfalso; omega)
        | (have k1 : z40.toInt = (u.toInt - 1) := by omega
           have k2 : z41.toInt = (u.toInt - 1) / 400 := by omega
           have k3 : z43.toInt = (u.toInt - 1) - (u.toInt - 1) / 400 * 400 := by omega
           have k4 : z45.toInt = (w.toInt + 9) := by omega
           have k5 : z51.toInt = (153 * (w.toInt + 9) + 2) / 5 + d.toInt - 1 := by omega
           have k6 : z57.toInt = z43.toInt * 365 + z43.toInt / 4 - z43.toInt / 100 + z51.toInt := by omega
           have k7 : z60.toInt = z41.toInt * 146097 + z57.toInt - 719468 := by omega
           unfold own_ref
           rw [k7, k6, k5, k3, k2]
           try omega)
      · first
        | (exfalso; omega)
        | (have k1 : z40.toInt = u.toInt := by omega
           have k2 : z41.toInt = u.toInt / 400 := by omega
           have k3 : z43.toInt = u.toInt - u.toInt / 400 * 400 := by omega
           have k4 : z45.toInt = (w.toInt - 3) := by omega
           have k5 : z51.toInt = (153 * (w.toInt - 3) + 2) / 5 + d.toInt - 1 := by omega
           have k6 : z57.toInt = z43.toInt * 365 + z43.toInt / 4 - z43.toInt / 100 + z51.toInt := by omega
           have k7 : z60.toInt = z41.toInt * 146097 + z57.toInt - 719468 := by omega
           unfold own_ref
           rw [k7, k6, k5, k3, k2]
           try omega)
    · -- pc 34 not taken
      replace hc34 : (2 : Int) < w.toInt := hc34
      refine iloadN P d4_37 rfl (n := 38) rfl ?_
      refine iconst P d4_38 (x := (3 : Int32)) rfl (n := 39) rfl ?_
      refine isub P d4_39 (n := 40) rfl ?_
      refine nameI (x := (w - (3 : Int32))) (F := fun z61 => Jvm.Own.Ends p e below s rm_c_ref n0 (RetJ (fun z => (w.toInt ≤ 2 → z.toInt = own_ref (u.toInt - 1) (w.toInt + 9) d.toInt) ∧ (2 < w.toInt → z.toInt = own_ref u.toInt (w.toInt - 3) d.toInt)) h0) T (mkF m 40 #[.val (.int u), .val (.int w), .val (.int d), .val (.long z40), .second, .val (.long z41), .second, .val (.long z43), .second, .unset, .unset, .unset, .unset, .unset, .unset] [(.int z61)])) ?_
      intro z61 hz61
      have tz61 : z61.toInt = w.toInt - (3 : Int) := n_isub hz61 rfl rfl (by omega)
      refine i2l P d4_40 (n := 41) rfl ?_
      refine nameI (x := (z61.toInt64)) (F := fun z62 => Jvm.Own.Ends p e below s rm_c_ref n0 (RetJ (fun z => (w.toInt ≤ 2 → z.toInt = own_ref (u.toInt - 1) (w.toInt + 9) d.toInt) ∧ (2 < w.toInt → z.toInt = own_ref u.toInt (w.toInt - 3) d.toInt)) h0) T (mkF m 41 #[.val (.int u), .val (.int w), .val (.int d), .val (.long z40), .second, .val (.long z41), .second, .val (.long z43), .second, .unset, .unset, .unset, .unset, .unset, .unset] [(.long z62)])) ?_
      intro z62 hz62
      have tz62 : z62.toInt = z61.toInt := n_i2l hz62 rfl
      refine goto P d4_41 (n := 49) (by decide) ?_
      refine lstore P d4_49 (l' := #[.val (.int u), .val (.int w), .val (.int d), .val (.long z40), .second, .val (.long z41), .second, .val (.long z43), .second, .val (.long z62), .second, .unset, .unset, .unset, .unset]) rfl (n := 51) rfl ?_
      refine ldc2J P d4_51 (hw _ (List.mem_of_getElem? (i := 23) rfl)) (n := 54) rfl ?_
      refine lload P d4_54 rfl (n := 56) rfl ?_
      refine lmul P d4_56 (n := 57) rfl ?_
      refine nameI (x := ((153 : Int64) * z62)) (F := fun z63 => Jvm.Own.Ends p e below s rm_c_ref n0 (RetJ (fun z => (w.toInt ≤ 2 → z.toInt = own_ref (u.toInt - 1) (w.toInt + 9) d.toInt) ∧ (2 < w.toInt → z.toInt = own_ref u.toInt (w.toInt - 3) d.toInt)) h0) T (mkF m 57 #[.val (.int u), .val (.int w), .val (.int d), .val (.long z40), .second, .val (.long z41), .second, .val (.long z43), .second, .val (.long z62), .second, .unset, .unset, .unset, .unset] [(.long z63)])) ?_
      intro z63 hz63
      have tz63 : z63.toInt = (153 : Int) * z62.toInt := n_lmul hz63 rfl rfl (by omega)
      refine ldc2J P d4_57 (hw _ (List.mem_of_getElem? (i := 24) rfl)) (n := 60) rfl ?_
      refine ladd P d4_60 (n := 61) rfl ?_
      refine nameI (x := (z63 + (2 : Int64))) (F := fun z64 => Jvm.Own.Ends p e below s rm_c_ref n0 (RetJ (fun z => (w.toInt ≤ 2 → z.toInt = own_ref (u.toInt - 1) (w.toInt + 9) d.toInt) ∧ (2 < w.toInt → z.toInt = own_ref u.toInt (w.toInt - 3) d.toInt)) h0) T (mkF m 61 #[.val (.int u), .val (.int w), .val (.int d), .val (.long z40), .second, .val (.long z41), .second, .val (.long z43), .second, .val (.long z62), .second, .unset, .unset, .unset, .unset] [(.long z64)])) ?_
      intro z64 hz64
      have tz64 : z64.toInt = z63.toInt + (2 : Int) := n_ladd hz64 rfl rfl (by omega)
      refine ldc2J P d4_61 (hw _ (List.mem_of_getElem? (i := 25) rfl)) (n := 64) rfl ?_
      refine ldiv P d4_64 (by decide) (n := 65) rfl ?_
      refine nameI (x := (z64 / (5 : Int64))) (F := fun z65 => Jvm.Own.Ends p e below s rm_c_ref n0 (RetJ (fun z => (w.toInt ≤ 2 → z.toInt = own_ref (u.toInt - 1) (w.toInt + 9) d.toInt) ∧ (2 < w.toInt → z.toInt = own_ref u.toInt (w.toInt - 3) d.toInt)) h0) T (mkF m 65 #[.val (.int u), .val (.int w), .val (.int d), .val (.long z40), .second, .val (.long z41), .second, .val (.long z43), .second, .val (.long z62), .second, .unset, .unset, .unset, .unset] [(.long z65)])) ?_
      intro z65 hz65
      have tz65 : z65.toInt = z64.toInt / (5 : Int) := n_ldiv hz65 rfl rfl (by omega)
      refine iloadN P d4_65 rfl (n := 66) rfl ?_
      refine i2l P d4_66 (n := 67) rfl ?_
      refine nameI (x := (d.toInt64)) (F := fun z66 => Jvm.Own.Ends p e below s rm_c_ref n0 (RetJ (fun z => (w.toInt ≤ 2 → z.toInt = own_ref (u.toInt - 1) (w.toInt + 9) d.toInt) ∧ (2 < w.toInt → z.toInt = own_ref u.toInt (w.toInt - 3) d.toInt)) h0) T (mkF m 67 #[.val (.int u), .val (.int w), .val (.int d), .val (.long z40), .second, .val (.long z41), .second, .val (.long z43), .second, .val (.long z62), .second, .unset, .unset, .unset, .unset] [(.long z66), (.long z65)])) ?_
      intro z66 hz66
      have tz66 : z66.toInt = d.toInt := n_i2l hz66 rfl
      refine ladd P d4_67 (n := 68) rfl ?_
      refine nameI (x := (z65 + z66)) (F := fun z67 => Jvm.Own.Ends p e below s rm_c_ref n0 (RetJ (fun z => (w.toInt ≤ 2 → z.toInt = own_ref (u.toInt - 1) (w.toInt + 9) d.toInt) ∧ (2 < w.toInt → z.toInt = own_ref u.toInt (w.toInt - 3) d.toInt)) h0) T (mkF m 68 #[.val (.int u), .val (.int w), .val (.int d), .val (.long z40), .second, .val (.long z41), .second, .val (.long z43), .second, .val (.long z62), .second, .unset, .unset, .unset, .unset] [(.long z67)])) ?_
      intro z67 hz67
      have tz67 : z67.toInt = z65.toInt + z66.toInt := n_ladd hz67 rfl rfl (by omega)
      refine lconst P d4_68 (x := (1 : Int64)) rfl (n := 69) rfl ?_
      refine lsub P d4_69 (n := 70) rfl ?_
      refine nameI (x := (z67 - (1 : Int64))) (F := fun z68 => Jvm.Own.Ends p e below s rm_c_ref n0 (RetJ (fun z => (w.toInt ≤ 2 → z.toInt = own_ref (u.toInt - 1) (w.toInt + 9) d.toInt) ∧ (2 < w.toInt → z.toInt = own_ref u.toInt (w.toInt - 3) d.toInt)) h0) T (mkF m 70 #[.val (.int u), .val (.int w), .val (.int d), .val (.long z40), .second, .val (.long z41), .second, .val (.long z43), .second, .val (.long z62), .second, .unset, .unset, .unset, .unset] [(.long z68)])) ?_
      intro z68 hz68
      have tz68 : z68.toInt = z67.toInt - (1 : Int) := n_lsub hz68 rfl rfl (by omega)
      refine lstore P d4_70 (l' := #[.val (.int u), .val (.int w), .val (.int d), .val (.long z40), .second, .val (.long z41), .second, .val (.long z43), .second, .val (.long z62), .second, .val (.long z68), .second, .unset, .unset]) rfl (n := 72) rfl ?_
      refine lload P d4_72 rfl (n := 74) rfl ?_
      refine ldc2J P d4_74 (hw _ (List.mem_of_getElem? (i := 26) rfl)) (n := 77) rfl ?_
      refine lmul P d4_77 (n := 78) rfl ?_
      refine nameI (x := (z43 * (365 : Int64))) (F := fun z69 => Jvm.Own.Ends p e below s rm_c_ref n0 (RetJ (fun z => (w.toInt ≤ 2 → z.toInt = own_ref (u.toInt - 1) (w.toInt + 9) d.toInt) ∧ (2 < w.toInt → z.toInt = own_ref u.toInt (w.toInt - 3) d.toInt)) h0) T (mkF m 78 #[.val (.int u), .val (.int w), .val (.int d), .val (.long z40), .second, .val (.long z41), .second, .val (.long z43), .second, .val (.long z62), .second, .val (.long z68), .second, .unset, .unset] [(.long z69)])) ?_
      intro z69 hz69
      have tz69 : z69.toInt = z43.toInt * (365 : Int) := n_lmul hz69 rfl rfl (by omega)
      refine lload P d4_78 rfl (n := 80) rfl ?_
      refine ldc2J P d4_80 (hw _ (List.mem_of_getElem? (i := 27) rfl)) (n := 83) rfl ?_
      refine ldiv P d4_83 (by decide) (n := 84) rfl ?_
      refine nameI (x := (z43 / (4 : Int64))) (F := fun z70 => Jvm.Own.Ends p e below s rm_c_ref n0 (RetJ (fun z => (w.toInt ≤ 2 → z.toInt = own_ref (u.toInt - 1) (w.toInt + 9) d.toInt) ∧ (2 < w.toInt → z.toInt = own_ref u.toInt (w.toInt - 3) d.toInt)) h0) T (mkF m 84 #[.val (.int u), .val (.int w), .val (.int d), .val (.long z40), .second, .val (.long z41), .second, .val (.long z43), .second, .val (.long z62), .second, .val (.long z68), .second, .unset, .unset] [(.long z70), (.long z69)])) ?_
      intro z70 hz70
      have tz70 : z70.toInt = z43.toInt / (4 : Int) := n_ldiv hz70 rfl rfl (by omega)
      refine ladd P d4_84 (n := 85) rfl ?_
      refine nameI (x := (z69 + z70)) (F := fun z71 => Jvm.Own.Ends p e below s rm_c_ref n0 (RetJ (fun z => (w.toInt ≤ 2 → z.toInt = own_ref (u.toInt - 1) (w.toInt + 9) d.toInt) ∧ (2 < w.toInt → z.toInt = own_ref u.toInt (w.toInt - 3) d.toInt)) h0) T (mkF m 85 #[.val (.int u), .val (.int w), .val (.int d), .val (.long z40), .second, .val (.long z41), .second, .val (.long z43), .second, .val (.long z62), .second, .val (.long z68), .second, .unset, .unset] [(.long z71)])) ?_
      intro z71 hz71
      have tz71 : z71.toInt = z69.toInt + z70.toInt := n_ladd hz71 rfl rfl (by omega)
      refine lload P d4_85 rfl (n := 87) rfl ?_
      refine ldc2J P d4_87 (hw _ (List.mem_of_getElem? (i := 28) rfl)) (n := 90) rfl ?_
      refine ldiv P d4_90 (by decide) (n := 91) rfl ?_
      refine nameI (x := (z43 / (100 : Int64))) (F := fun z72 => Jvm.Own.Ends p e below s rm_c_ref n0 (RetJ (fun z => (w.toInt ≤ 2 → z.toInt = own_ref (u.toInt - 1) (w.toInt + 9) d.toInt) ∧ (2 < w.toInt → z.toInt = own_ref u.toInt (w.toInt - 3) d.toInt)) h0) T (mkF m 91 #[.val (.int u), .val (.int w), .val (.int d), .val (.long z40), .second, .val (.long z41), .second, .val (.long z43), .second, .val (.long z62), .second, .val (.long z68), .second, .unset, .unset] [(.long z72), (.long z71)])) ?_
      intro z72 hz72
      have tz72 : z72.toInt = z43.toInt / (100 : Int) := n_ldiv hz72 rfl rfl (by omega)
      refine lsub P d4_91 (n := 92) rfl ?_
      refine nameI (x := (z71 - z72)) (F := fun z73 => Jvm.Own.Ends p e below s rm_c_ref n0 (RetJ (fun z => (w.toInt ≤ 2 → z.toInt = own_ref (u.toInt - 1) (w.toInt + 9) d.toInt) ∧ (2 < w.toInt → z.toInt = own_ref u.toInt (w.toInt - 3) d.toInt)) h0) T (mkF m 92 #[.val (.int u), .val (.int w), .val (.int d), .val (.long z40), .second, .val (.long z41), .second, .val (.long z43), .second, .val (.long z62), .second, .val (.long z68), .second, .unset, .unset] [(.long z73)])) ?_
      intro z73 hz73
      have tz73 : z73.toInt = z71.toInt - z72.toInt := n_lsub hz73 rfl rfl (by omega)
      refine lload P d4_92 rfl (n := 94) rfl ?_
      refine ladd P d4_94 (n := 95) rfl ?_
      refine nameI (x := (z73 + z68)) (F := fun z74 => Jvm.Own.Ends p e below s rm_c_ref n0 (RetJ (fun z => (w.toInt ≤ 2 → z.toInt = own_ref (u.toInt - 1) (w.toInt + 9) d.toInt) ∧ (2 < w.toInt → z.toInt = own_ref u.toInt (w.toInt - 3) d.toInt)) h0) T (mkF m 95 #[.val (.int u), .val (.int w), .val (.int d), .val (.long z40), .second, .val (.long z41), .second, .val (.long z43), .second, .val (.long z62), .second, .val (.long z68), .second, .unset, .unset] [(.long z74)])) ?_
      intro z74 hz74
      have tz74 : z74.toInt = z73.toInt + z68.toInt := n_ladd hz74 rfl rfl (by omega)
      refine lstore P d4_95 (l' := #[.val (.int u), .val (.int w), .val (.int d), .val (.long z40), .second, .val (.long z41), .second, .val (.long z43), .second, .val (.long z62), .second, .val (.long z68), .second, .val (.long z74), .second]) rfl (n := 97) rfl ?_
      refine lload P d4_97 rfl (n := 99) rfl ?_
      refine ldc2J P d4_99 (hw _ (List.mem_of_getElem? (i := 29) rfl)) (n := 102) rfl ?_
      refine lmul P d4_102 (n := 103) rfl ?_
      refine nameI (x := (z41 * (146097 : Int64))) (F := fun z75 => Jvm.Own.Ends p e below s rm_c_ref n0 (RetJ (fun z => (w.toInt ≤ 2 → z.toInt = own_ref (u.toInt - 1) (w.toInt + 9) d.toInt) ∧ (2 < w.toInt → z.toInt = own_ref u.toInt (w.toInt - 3) d.toInt)) h0) T (mkF m 103 #[.val (.int u), .val (.int w), .val (.int d), .val (.long z40), .second, .val (.long z41), .second, .val (.long z43), .second, .val (.long z62), .second, .val (.long z68), .second, .val (.long z74), .second] [(.long z75)])) ?_
      intro z75 hz75
      have tz75 : z75.toInt = z41.toInt * (146097 : Int) := n_lmul hz75 rfl rfl (by omega)
      refine lload P d4_103 rfl (n := 105) rfl ?_
      refine ladd P d4_105 (n := 106) rfl ?_
      refine nameI (x := (z75 + z74)) (F := fun z76 => Jvm.Own.Ends p e below s rm_c_ref n0 (RetJ (fun z => (w.toInt ≤ 2 → z.toInt = own_ref (u.toInt - 1) (w.toInt + 9) d.toInt) ∧ (2 < w.toInt → z.toInt = own_ref u.toInt (w.toInt - 3) d.toInt)) h0) T (mkF m 106 #[.val (.int u), .val (.int w), .val (.int d), .val (.long z40), .second, .val (.long z41), .second, .val (.long z43), .second, .val (.long z62), .second, .val (.long z68), .second, .val (.long z74), .second] [(.long z76)])) ?_
      intro z76 hz76
      have tz76 : z76.toInt = z75.toInt + z74.toInt := n_ladd hz76 rfl rfl (by omega)
      refine ldc2J P d4_106 (hw _ (List.mem_of_getElem? (i := 30) rfl)) (n := 109) rfl ?_
      refine lsub P d4_109 (n := 110) rfl ?_
      refine nameI (x := (z76 - (719468 : Int64))) (F := fun z77 => Jvm.Own.Ends p e below s rm_c_ref n0 (RetJ (fun z => (w.toInt ≤ 2 → z.toInt = own_ref (u.toInt - 1) (w.toInt + 9) d.toInt) ∧ (2 < w.toInt → z.toInt = own_ref u.toInt (w.toInt - 3) d.toInt)) h0) T (mkF m 110 #[.val (.int u), .val (.int w), .val (.int d), .val (.long z40), .second, .val (.long z41), .second, .val (.long z43), .second, .val (.long z62), .second, .val (.long z68), .second, .val (.long z74), .second] [(.long z77)])) ?_
      intro z77 hz77
      have tz77 : z77.toInt = z76.toInt - (719468 : Int) := n_lsub hz77 rfl rfl (by omega)
      refine retL P d4_110 (by decide) (by decide) ?_
      refine RetJ.mk ⟨fun q => ?_, fun q => ?_⟩
      · first
        | (exfalso; omega)
        | (have k1 : z40.toInt = (u.toInt - 1) := by omega
           have k2 : z41.toInt = (u.toInt - 1) / 400 := by omega
           have k3 : z43.toInt = (u.toInt - 1) - (u.toInt - 1) / 400 * 400 := by omega
           have k4 : z62.toInt = (w.toInt + 9) := by omega
           have k5 : z68.toInt = (153 * (w.toInt + 9) + 2) / 5 + d.toInt - 1 := by omega
           have k6 : z74.toInt = z43.toInt * 365 + z43.toInt / 4 - z43.toInt / 100 + z68.toInt := by omega
           have k7 : z77.toInt = z41.toInt * 146097 + z74.toInt - 719468 := by omega
           unfold own_ref
           rw [k7, k6, k5, k3, k2]
           try omega)
      · first
        | (exfalso; omega)
        | (have k1 : z40.toInt = u.toInt := by omega
           have k2 : z41.toInt = u.toInt / 400 := by omega
           have k3 : z43.toInt = u.toInt - u.toInt / 400 * 400 := by omega
           have k4 : z62.toInt = (w.toInt - 3) := by omega
           have k5 : z68.toInt = (153 * (w.toInt - 3) + 2) / 5 + d.toInt - 1 := by omega
           have k6 : z74.toInt = z43.toInt * 365 + z43.toInt / 4 - z43.toInt / 100 + z68.toInt := by omega
           have k7 : z77.toInt = z41.toInt * 146097 + z74.toInt - 719468 := by omega
           unfold own_ref
           rw [k7, k6, k5, k3, k2]
           try omega)
theorem ef_0 (m : MethodId) (y : Int32) (mo : Int32) (dd : Int32) : entryFrame m #[(.int y), (.int mo), (.int dd)] maxLocals = mkF m 0 #[.val (.int y), .val (.int mo), .val (.int dd), .unset, .unset, .unset] [] := by first | (simp [entryFrame, mkF, argsToLocals, Value.category, maxLocals]; done) | rfl
theorem pd_1 : parseMethodDescriptor "(II)I" = some ⟨[.int, .int], some .int⟩ := by decide +kernel
theorem pd_2 : parseMethodDescriptor "(III)J" = some ⟨[.int, .int, .int], some .long⟩ := by decide +kernel
set_option maxRecDepth 65536 in
set_option maxHeartbeats 40000000 in
theorem rm_law (l : Launch) (Z : State) (a0 : Array Value) (hw : ∀ d ∈ tables_1, d.before a0 Z = true) (y : Int32) (mo : Int32) (dd : Int32) (da : Addr) (h0 : Heap) (n0 : Nat) (low : n0 ≤ h0.size) (S_d : Sta Z h0 "com/example/sessionloom/sessionloom/FixedTimeFormat" "DAYS_BEFORE_MONTH" "[I" (.ref da)) (A_d : ARI Z h0 da .int 13 own_days) :
    Meth l Z x code maxLocals ret room_1 #[(.int y), (.int mo), (.int dd)] h0 n0 (fun v _ => v = some (.int 1)) := by
  refine Meth.of (plainFor_of_name pn_1) low ?_
  intro p e s m args below meth c T P
  refine Ends.cast (ef_0 m y mo dd) ?_
  refine iloadN P at_0 rfl (n := 1) rfl ?_
  refine ldcI P at_1 (hw _ (List.mem_of_getElem? (i := 0) rfl)) (n := 3) rfl ?_
  refine iand P at_3 (n := 4) rfl ?_
  refine nameI (x := (y &&& (2147483647 : Int32))) (F := fun z1 => Jvm.Own.Ends p e below s room_1 n0 (fun v _ => v = some (.int 1)) T (mkF m 4 #[.val (.int y), .val (.int mo), .val (.int dd), .unset, .unset, .unset] [(.int z1)])) ?_
  intro z1 hz1
  have tz1 : z1.toInt = y.toInt % 2147483648 := n_mask 31 hz1 rfl (by decide)
  refine ldcI P at_4 (hw _ (List.mem_of_getElem? (i := 0) rfl)) (n := 6) rfl ?_
  refine irem P at_6 (by decide) (n := 7) rfl ?_
  refine nameI (x := (z1 % (2147483647 : Int32))) (F := fun z2 => Jvm.Own.Ends p e below s room_1 n0 (fun v _ => v = some (.int 1)) T (mkF m 7 #[.val (.int y), .val (.int mo), .val (.int dd), .unset, .unset, .unset] [(.int z2)])) ?_
  intro z2 hz2
  have tz2 : z2.toInt = z1.toInt % (2147483647 : Int) := n_irem hz2 rfl rfl (by omega)
  refine iconst P at_7 (x := (1 : Int32)) rfl (n := 8) rfl ?_
  refine iadd P at_8 (n := 9) rfl ?_
  refine nameI (x := (z2 + (1 : Int32))) (F := fun z3 => Jvm.Own.Ends p e below s room_1 n0 (fun v _ => v = some (.int 1)) T (mkF m 9 #[.val (.int y), .val (.int mo), .val (.int dd), .unset, .unset, .unset] [(.int z3)])) ?_
  intro z3 hz3
  have tz3 : z3.toInt = z2.toInt + (1 : Int) := n_iadd hz3 rfl rfl (by omega)
  refine istoreN P at_9 (l' := #[.val (.int y), .val (.int mo), .val (.int dd), .val (.int z3), .unset, .unset]) rfl (n := 10) rfl ?_
  refine iloadN P at_10 rfl (n := 11) rfl ?_
  refine ldcI P at_11 (hw _ (List.mem_of_getElem? (i := 0) rfl)) (n := 13) rfl ?_
  refine iand P at_13 (n := 14) rfl ?_
  refine nameI (x := (mo &&& (2147483647 : Int32))) (F := fun z4 => Jvm.Own.Ends p e below s room_1 n0 (fun v _ => v = some (.int 1)) T (mkF m 14 #[.val (.int y), .val (.int mo), .val (.int dd), .val (.int z3), .unset, .unset] [(.int z4)])) ?_
  intro z4 hz4
  have tz4 : z4.toInt = mo.toInt % 2147483648 := n_mask 31 hz4 rfl (by decide)
  refine bipush P at_14 (x := (12 : Int32)) rfl (n := 16) rfl ?_
  refine irem P at_16 (by decide) (n := 17) rfl ?_
  refine nameI (x := (z4 % (12 : Int32))) (F := fun z5 => Jvm.Own.Ends p e below s room_1 n0 (fun v _ => v = some (.int 1)) T (mkF m 17 #[.val (.int y), .val (.int mo), .val (.int dd), .val (.int z3), .unset, .unset] [(.int z5)])) ?_
  intro z5 hz5
  have tz5 : z5.toInt = z4.toInt % (12 : Int) := n_irem hz5 rfl rfl (by omega)
  refine iconst P at_17 (x := (1 : Int32)) rfl (n := 18) rfl ?_
  refine iadd P at_18 (n := 19) rfl ?_
  refine nameI (x := (z5 + (1 : Int32))) (F := fun z6 => Jvm.Own.Ends p e below s room_1 n0 (fun v _ => v = some (.int 1)) T (mkF m 19 #[.val (.int y), .val (.int mo), .val (.int dd), .val (.int z3), .unset, .unset] [(.int z6)])) ?_
  intro z6 hz6
  have tz6 : z6.toInt = z5.toInt + (1 : Int) := n_iadd hz6 rfl rfl (by omega)
  refine istore P at_19 (l' := #[.val (.int y), .val (.int mo), .val (.int dd), .val (.int z3), .val (.int z6), .unset]) rfl (n := 21) rfl ?_
  refine iloadN P at_21 rfl (n := 22) rfl ?_
  refine ldcI P at_22 (hw _ (List.mem_of_getElem? (i := 0) rfl)) (n := 24) rfl ?_
  refine iand P at_24 (n := 25) rfl ?_
  refine nameI (x := (dd &&& (2147483647 : Int32))) (F := fun z7 => Jvm.Own.Ends p e below s room_1 n0 (fun v _ => v = some (.int 1)) T (mkF m 25 #[.val (.int y), .val (.int mo), .val (.int dd), .val (.int z3), .val (.int z6), .unset] [(.int z7)])) ?_
  intro z7 hz7
  have tz7 : z7.toInt = dd.toInt % 2147483648 := n_mask 31 hz7 rfl (by decide)
  refine iloadN P at_25 rfl (n := 26) rfl ?_
  refine iload P at_26 rfl (n := 28) rfl ?_
  refine callS P at_28 (argsL := [(.int z3), (.int z6)]) (rest := [(.int z7)]) (c_days l Z a0 hw z3 z6 h0 n0 P.low (by omega)) (hw _ (List.mem_of_getElem? (i := 1) rfl)) (hw _ (List.mem_of_getElem? (i := 2) rfl)) (hw _ (List.mem_of_getElem? (i := 3) rfl)) (hw _ (List.mem_of_getElem? (i := 4) rfl)) (by decide) pd_1 rfl rfl rfl ⟨by decide, Nat.le_of_ble_eq_true rfl, by decide, by decide⟩ (n := 31) rfl (RetI.on ?_)
  intro T r8 P hr8
  refine irem P at_31 (nzI (by omega)) (n := 32) rfl ?_
  refine nameI (x := (z7 % r8)) (F := fun zd => Jvm.Own.Ends p e below s room_1 n0 (fun v _ => v = some (.int 1)) T (mkF m 32 #[.val (.int y), .val (.int mo), .val (.int dd), .val (.int z3), .val (.int z6), .unset] [(.int zd)])) ?_
  intro zd hzd
  have tzd := n_iremV hzd (by omega) (by omega)
  refine iconst P at_32 (x := (1 : Int32)) rfl (n := 33) rfl ?_
  refine iadd P at_33 (n := 34) rfl ?_
  refine nameI (x := (zd + (1 : Int32))) (F := fun z9 => Jvm.Own.Ends p e below s room_1 n0 (fun v _ => v = some (.int 1)) T (mkF m 34 #[.val (.int y), .val (.int mo), .val (.int dd), .val (.int z3), .val (.int z6), .unset] [(.int z9)])) ?_
  intro z9 hz9
  have tz9 : z9.toInt = zd.toInt + (1 : Int) := n_iadd hz9 rfl rfl (by omega)
  refine istore P at_34 (l' := #[.val (.int y), .val (.int mo), .val (.int dd), .val (.int z3), .val (.int z6), .val (.int z9)]) rfl (n := 36) rfl ?_
  refine iloadN P at_36 rfl (n := 37) rfl ?_
  refine iload P at_37 rfl (n := 39) rfl ?_
  refine iload P at_39 rfl (n := 41) rfl ?_
  refine callS P at_41 (argsL := [(.int z3), (.int z6), (.int z9)]) (rest := []) (c_epoch l Z a0 hw z3 z6 z9 da h0 n0 P.low S_d A_d (by omega) (by omega) (by omega)) (hw _ (List.mem_of_getElem? (i := 5) rfl)) (hw _ (List.mem_of_getElem? (i := 6) rfl)) (hw _ (List.mem_of_getElem? (i := 7) rfl)) (hw _ (List.mem_of_getElem? (i := 8) rfl)) (by decide) pd_2 rfl rfl rfl ⟨by decide, Nat.le_of_ble_eq_true rfl, by decide, by decide⟩ (n := 44) rfl (RetJ.on ?_)
  intro T r10 P hr10
  refine iloadN P at_44 rfl (n := 45) rfl ?_
  refine iload P at_45 rfl (n := 47) rfl ?_
  refine iload P at_47 rfl (n := 49) rfl ?_
  refine callS P at_49 (argsL := [(.int z3), (.int z6), (.int z9)]) (rest := [(.long r10)]) (c_ref l Z a0 hw z3 z6 z9 h0 n0 P.low (by omega) (by omega) (by omega)) (hw _ (List.mem_of_getElem? (i := 19) rfl)) (hw _ (List.mem_of_getElem? (i := 20) rfl)) (hw _ (List.mem_of_getElem? (i := 3) rfl)) (hw _ (List.mem_of_getElem? (i := 21) rfl)) (by decide) pd_2 rfl rfl rfl ⟨by decide, Nat.le_of_ble_eq_true rfl, by decide, by decide⟩ (n := 52) rfl (RetJ.on ?_)
  intro T r11 P hr11
  refine lcmp P at_52 (n := 53) rfl ?_
  refine ifl_ne P at_53 (n' := 60) (n := 56) (by decide) rfl (fun hc53 => ?_) (fun hc53 => ?_)
  · -- pc 53 taken
    exfalso
    obtain ⟨e9, he9, hv9⟩ := hr10
    refine hc53 ?_
    rw [hv9]
    have hr9 := hr11
    by_cases q9 : z6.toInt ≤ 2
    · rw [hr9.1 q9]
      obtain rfl : e9 = 0 := by omega
      refine own_early _ _ _ _ (by omega) ?_
      have hk : z6.toInt = 1 ∨ z6.toInt = 2 := by omega
      rcases hk with hk | hk <;> rw [hk] <;> decide
    · rw [hr9.2 (by omega)]
      refine own_late _ _ _ _ _ (by omega) ?_ ?_
      · rcases he9 with he9 | he9
        · exact Or.inl he9.2
        · exact Or.inr ⟨fun w9 => he9.1 ⟨by omega, w9⟩, he9.2⟩
      · have hk : z6.toInt = 3 ∨ z6.toInt = 4 ∨ z6.toInt = 5 ∨ z6.toInt = 6 ∨ z6.toInt = 7 ∨ z6.toInt = 8 ∨ z6.toInt = 9 ∨ z6.toInt = 10 ∨ z6.toInt = 11 ∨ z6.toInt = 12 := by omega
        rcases hk with hk | hk | hk | hk | hk | hk | hk | hk | hk | hk <;> rw [hk] <;> decide
  · -- pc 53 not taken
    refine iconst P at_56 (x := (1 : Int32)) rfl (n := 57) rfl ?_
    refine goto P at_57 (n := 61) (by decide) ?_
    refine retZ P at_61 (by decide) (by decide) (by decide) ?_
    exact rfl
set_option maxRecDepth 65536 in
set_option maxHeartbeats 40000000 in
theorem comes_1 {Post : Tables → Env → Array Value → State → Outcome → State → Prop} (hpost : ∀ tb e args s v u, (limb_1_1.after args s (.returned v) u = true ∧ limb_1_2.after args s (.returned v) u = true ∧ True) → FrameEnd s (.returned v) u (Jvm.fieldLocs frame_1_writes args s ++ Jvm.arrayLocs frame_1_arrays args s ++ Jvm.staticLocs frame_1_statics s) 0 0 → Post tb e args s (.returned v) u) :
    ArmFor flags0 classFile x code maxLocals ret World_1 tables_1 room_1 Calls_1 rest_1 Pre_1 Post := by
  intro l hfl _ _ p e ha hc hk s m args below hf hA hF happ hP
  obtain ⟨hcalls, hrest, hpre⟩ := hP
  obtain ⟨-, -, -, hnamed, -, -, -, hat⟩ := (Spec.applies_iff hf).mp happ
  obtain ⟨hg, hn⟩ := and_e (Cond.before_iff.mp (show (Jvm.Cond.and given_1 narrow_1).before args s = true from hpre))
  obtain ⟨q0, g0⟩ := and_e hg
  obtain ⟨w0, w1, w2, rfl⟩ : ∃ w0 w1 w2 : Value, args = #[w0, w1, w2] := by
    have hs : args.size = 3 := by simpa [Cond.value, given_1] using q0
    obtain ⟨L⟩ := args
    match L, hs with
    | [w0, w1, w2], _ => exact ⟨w0, w1, w2, rfl⟩
  have hw := fun d (hd : d ∈ tables_1) => atoms_spec (ws := Jvm.Cond.code x code maxLocals ret :: tables_1) hat d (List.mem_cons_of_mem _ hd)
  obtain ⟨q1, g1⟩ := and_e g0
  obtain ⟨i0, e0⟩ := is_v q1
  obtain rfl : w0 = (.int i0) := Option.some.inj e0
  obtain ⟨q2, g2⟩ := and_e g1
  obtain ⟨i1, e1⟩ := is_v q2
  obtain rfl : w1 = (.int i1) := Option.some.inj e1
  have q3 := g2
  obtain ⟨i2, e2⟩ := is_v q3
  obtain rfl : w2 = (.int i2) := Option.some.inj e2
  obtain ⟨m1, hn⟩ := and_e hn
  obtain ⟨m2, hn⟩ := and_e hn
  obtain ⟨d0, hn⟩ := and_e hn
  obtain ⟨d1, hn⟩ := and_e hn
  obtain ⟨d2, hn⟩ := and_e hn
  obtain ⟨d3, hn⟩ := and_e hn
  obtain ⟨d4, hn⟩ := and_e hn
  obtain ⟨d5, hn⟩ := and_e hn
  obtain ⟨d6, hn⟩ := and_e hn
  obtain ⟨d7, hn⟩ := and_e hn
  obtain ⟨d8, hn⟩ := and_e hn
  obtain ⟨d9, hn⟩ := and_e hn
  obtain ⟨d10, hn⟩ := and_e hn
  obtain ⟨d11, hn⟩ := and_e hn
  have d12 := hn
  obtain ⟨da, v1⟩ := arr_v m1
  have S_d := Sta.start v1 (Or.inr ⟨(hw _ (List.mem_of_getElem? (i := 7) rfl)), (hw _ (List.mem_of_getElem? (i := 17) rfl))⟩)
  have A_d : ARI s s.heap da .int 13 own_days := AR.start v1 m1 m2 rfl (by
    intro i hi
    have hk : i = 0 ∨ i = 1 ∨ i = 2 ∨ i = 3 ∨ i = 4 ∨ i = 5 ∨ i = 6 ∨ i = 7 ∨ i = 8 ∨ i = 9 ∨ i = 10 ∨ i = 11 ∨ i = 12 := by omega
    rcases hk with rfl | rfl | rfl | rfl | rfl | rfl | rfl | rfl | rfl | rfl | rfl | rfl | rfl
    · exact eq_v d0
    · exact eq_v d1
    · exact eq_v d2
    · exact eq_v d3
    · exact eq_v d4
    · exact eq_v d5
    · exact eq_v d6
    · exact eq_v d7
    · exact eq_v d8
    · exact eq_v d9
    · exact eq_v d10
    · exact eq_v d11
    · exact eq_v d12)
  obtain ⟨n, o, h1, h2, h3, _, L, rfl, ⟨rfl, N⟩, hq⟩ := rm_law l s _ hw i0 i1 i2 da s.heap s.heap.size (Nat.le_refl _) S_d A_d tables_1 p e ha hc hk s m _ below hf ((Spec.applies_iff_loose hf).mp happ).1 ⟨rfl, State.Warmed39.refl s, rfl⟩ trivial
  refine ⟨n, _, h1, h2, h3, hpost _ _ _ _ _ _ ⟨Cond.after_iff.mpr rfl, Cond.after_iff.mpr (eq_i res_at (Term.int_eval (1)) rfl), trivial⟩ ⟨hq.1, hq.2.1, (hq.2.2.sift fun y hy => Or.inr (N y hy)).mono (by decide) (by decide)⟩⟩
theorem main_1_1 : Claimed_1_1 := comes_1 fun _ _ _ _ _ _ h hF => ⟨h.1, hF⟩
theorem main_1_2 : Claimed_1_2 := comes_1 fun _ _ _ _ _ _ h hF => ⟨h.2.1, hF⟩
end Jvm.Pilot.@@N@@
namespace Jvm.Pilot.@@N@@
open Jvm Jvm.ClassFile Sem Op Lib Jvm.Free Jvm.Stand Jvm.Pilot.@@N@@.Jvm.D
/-! MADE BY PROGRAM (witnessworld.py) out of the Statement's table words and the real class files: 9 classes; the members and pool entries that the words name. The judged class is class 1, her method 1. -/
namespace start1
open Jvm.ClassFile
def u (s : String) : CpInfo := .utf8 (stringToUtf16 s)
/-- a pool by its gaps: so many unusable entries, then the entry; so many at the end -/
def gap : Nat → List CpInfo → List CpInfo
  | 0, r => r
  | n + 1, r => .unusable :: gap n r
def poolList (es : List (Nat × CpInfo)) (last : Nat) : List CpInfo := es.foldr (fun e r => gap e.1 (e.2 :: r)) (gap last [])
def pool (es : List (Nat × CpInfo)) (last : Nat) : Array CpInfo := ⟨poolList es last⟩
def fileOf (pool : Array CpInfo) (this : Nat) (attrs : Array Attribute := #[]) (ms : Array MethodInfo := #[]) (fl : Nat := 33) (sup : Nat := 0) (ifs : Array Nat := #[]) (fds : Array FieldInfo := #[]) : ClassFile where
  minorVersion := 0
  majorVersion := 65
  constantPool := pool
  accessFlags := fl
  thisClass := this
  superClass := sup
  interfaces := ifs
  fields := fds
  methods := ms
  attributes := attrs
def plain (name : String) (sup : Option ClassId) : Class where
  name := name
  kind := .ordinary
  loader := none
  accessFlags := 33
  super := sup
  interfaces := #[]
  cf := none
  fields := #[]
  methods := #[]
  instanceTypes := #[]
  staticTypes := #[]
  resolved := #[]
  callSites := []
  init := .initialized
  statics := none
  mirror := none

def pool0 : Array CpInfo := pool [(5, u "<init>"), (0, u "()V"), (1, .class_ 10), (1, u "java/lang/Object")] 113

def k0m0 : Method := { name := "<init>", desc := "()V", sig := { parameters := [], returnType := none }, accessFlags := 1, code := none }
/-- java/lang/Object -/
def k0 : Class := { plain "java/lang/Object" none with
  accessFlags := 33
  interfaces := #[]
  cf := some (fileOf pool0 8 #[] #[{ accessFlags := 1, nameIndex := 5, descriptorIndex := 6, attributes := #[] }] 33 0 #[] #[])
  fields := #[]
  methods := #[k0m0]
  instanceTypes := #[]
  staticTypes := #[]
  resolved := Array.replicate 124 none
  statics := none }

def pool1 : Array CpInfo := pool [(2, .class_ 4), (1, u "java/lang/Object"), (0, u "<init>"), (0, u "()V"), (0, .integer 2147483647), (2, .methodref 11 12), (0, .class_ 13), (0, .nameAndType 14 15), (0, u "com/example/sessionloom/sessionloom/FixedTimeFormatEpochDayPinLaw"), (0, u "daysIn"), (0, u "(II)I"), (0, .methodref 17 18), (0, .class_ 19), (0, .nameAndType 20 21), (0, u "com/example/sessionloom/sessionloom/FixedTimeFormat"), (0, u "epochDay"), (0, u "(III)J"), (0, .methodref 11 23), (0, .nameAndType 24 21), (0, u "reference"), (0, .methodref 11 26), (0, .nameAndType 27 28), (0, u "leap"), (0, u "(I)Z"), (0, .long 400), (1, .long 153), (1, .long 2), (1, .long 5), (1, .long 365), (1, .long 4), (1, .long 100), (1, .long 146097), (1, .long 719468), (3, u "law"), (0, u "(III)Z")] 3

def k1m0 : Method := { name := "<init>", desc := "()V", sig := { parameters := [], returnType := none }, accessFlags := 1, code := none }
def k1c1 : Code := { maxStack := 5, maxLocals := 6, code := code, exceptionTable := #[], attributes := #[] }
def k1m1 : Method := { name := "law", desc := "(III)Z", sig := { parameters := [.int, .int, .int], returnType := some .boolean }, accessFlags := 9, code := some k1c1 }
def k1c2 : Code := { maxStack := 2, maxLocals := 1, code := method_3_code, exceptionTable := #[], attributes := #[] }
def k1m2 : Method := { name := "leap", desc := "(I)Z", sig := { parameters := [.int], returnType := some .boolean }, accessFlags := 10, code := some k1c2 }
def k1c3 : Code := { maxStack := 2, maxLocals := 2, code := method_4_code, exceptionTable := #[], attributes := #[] }
def k1m3 : Method := { name := "daysIn", desc := "(II)I", sig := { parameters := [.int, .int], returnType := some .int }, accessFlags := 10, code := some k1c3 }
def k1c4 : Code := { maxStack := 6, maxLocals := 15, code := method_5_code, exceptionTable := #[], attributes := #[] }
def k1m4 : Method := { name := "reference", desc := "(III)J", sig := { parameters := [.int, .int, .int], returnType := some .long }, accessFlags := 10, code := some k1c4 }
/-- com/example/sessionloom/sessionloom/FixedTimeFormatEpochDayPinLaw -/
def k1 : Class := { plain "com/example/sessionloom/sessionloom/FixedTimeFormatEpochDayPinLaw" (some 0) with
  accessFlags := 49
  interfaces := #[]
  cf := some (fileOf pool1 11 #[] #[{ accessFlags := 1, nameIndex := 5, descriptorIndex := 6, attributes := #[] }, { accessFlags := 9, nameIndex := 49, descriptorIndex := 50, attributes := #[] }, { accessFlags := 10, nameIndex := 27, descriptorIndex := 28, attributes := #[] }, { accessFlags := 10, nameIndex := 14, descriptorIndex := 15, attributes := #[] }, { accessFlags := 10, nameIndex := 24, descriptorIndex := 21, attributes := #[] }] 49 2 #[] #[])
  fields := #[]
  methods := #[k1m0, k1m1, k1m2, k1m3, k1m4]
  instanceTypes := #[]
  staticTypes := #[]
  resolved := Array.replicate 54 none
  statics := none }

def pool2 : Array CpInfo := pool [(4, .class_ 6), (1, u "java/lang/Object"), (3, .class_ 12), (1, u "com/example/sessionloom/sessionloom/FixedTimeFormat"), (0, u "layout"), (0, u "[B"), (8, u "headEnd"), (0, u "I"), (8, u "literalAt"), (0, u "[I"), (2, u "headLiterals"), (2, u "fieldAt"), (2, u "fractionDigits"), (2, u "isoTail"), (0, u "Z"), (20, .class_ 69), (0, u "com/example/sessionloom/sessionloom/FixedTimeFormat$Reader"), (15, u "epochDay"), (0, u "(III)J"), (18, u "(I)Z"), (3, .long 365), (1, .long 4), (1, .long 100), (1, .long 400), (1, .methodref 10 118), (0, .nameAndType 119 105), (0, u "isLeap"), (0, .fieldref 10 121), (0, .nameAndType 122 34), (0, u "DAYS_BEFORE_MONTH"), (0, .long 719162), (69, u "YEAR"), (2, u "MONTH"), (1, u "DAY"), (1, u "HOUR"), (1, u "MINUTE"), (1, u "SECOND"), (1, u "FRACTION"), (1, u "SECONDS_PER_DAY"), (1, u "DAYS_TO_EPOCH"), (0, u "J"), (0, u "MAX_FRACTION_DIGITS"), (1, u "ISO_DATE_TIME"), (0, u "Ljava/lang/String;"), (0, u "DIGIT"), (0, u "C"), (0, u "NOT_SURE")] 20

def k2c0 : Code := { maxStack := 6, maxLocals := 8, code := prog_10_method_16_code, exceptionTable := #[], attributes := #[] }
def k2m0 : Method := { name := "epochDay", desc := "(III)J", sig := { parameters := [.int, .int, .int], returnType := some .long }, accessFlags := 8, code := some k2c0 }
def k2c1 : Code := { maxStack := 2, maxLocals := 1, code := prog_10_method_18_code, exceptionTable := #[], attributes := #[] }
def k2m1 : Method := { name := "isLeap", desc := "(I)Z", sig := { parameters := [.int], returnType := some .boolean }, accessFlags := 10, code := some k2c1 }
/-- com/example/sessionloom/sessionloom/FixedTimeFormat -/
def k2 : Class := { plain "com/example/sessionloom/sessionloom/FixedTimeFormat" (some 0) with
  accessFlags := 48
  interfaces := #[]
  cf := some (fileOf pool2 10 #[.nestMembers #[68]] #[{ accessFlags := 8, nameIndex := 85, descriptorIndex := 86, attributes := #[] }, { accessFlags := 10, nameIndex := 119, descriptorIndex := 105, attributes := #[] }] 48 4 #[] #[{ accessFlags := 26, nameIndex := 193, descriptorIndex := 24, attributes := #[] }, { accessFlags := 26, nameIndex := 196, descriptorIndex := 24, attributes := #[] }, { accessFlags := 26, nameIndex := 198, descriptorIndex := 24, attributes := #[] }, { accessFlags := 26, nameIndex := 200, descriptorIndex := 24, attributes := #[] }, { accessFlags := 26, nameIndex := 202, descriptorIndex := 24, attributes := #[] }, { accessFlags := 26, nameIndex := 204, descriptorIndex := 24, attributes := #[] }, { accessFlags := 26, nameIndex := 206, descriptorIndex := 24, attributes := #[] }, { accessFlags := 26, nameIndex := 208, descriptorIndex := 24, attributes := #[] }, { accessFlags := 26, nameIndex := 122, descriptorIndex := 34, attributes := #[] }, { accessFlags := 26, nameIndex := 210, descriptorIndex := 211, attributes := #[] }, { accessFlags := 26, nameIndex := 212, descriptorIndex := 24, attributes := #[] }, { accessFlags := 26, nameIndex := 214, descriptorIndex := 215, attributes := #[] }, { accessFlags := 26, nameIndex := 216, descriptorIndex := 217, attributes := #[] }, { accessFlags := 24, nameIndex := 218, descriptorIndex := 211, attributes := #[] }, { accessFlags := 18, nameIndex := 13, descriptorIndex := 14, attributes := #[] }, { accessFlags := 18, nameIndex := 23, descriptorIndex := 24, attributes := #[] }, { accessFlags := 18, nameIndex := 33, descriptorIndex := 34, attributes := #[] }, { accessFlags := 18, nameIndex := 37, descriptorIndex := 24, attributes := #[] }, { accessFlags := 18, nameIndex := 40, descriptorIndex := 34, attributes := #[] }, { accessFlags := 18, nameIndex := 43, descriptorIndex := 24, attributes := #[] }, { accessFlags := 18, nameIndex := 46, descriptorIndex := 47, attributes := #[] }])
  fields := #[{ name := "YEAR", type := .int, accessFlags := 26, slot := 0, constantValue := 0 }, { name := "MONTH", type := .int, accessFlags := 26, slot := 1, constantValue := 0 }, { name := "DAY", type := .int, accessFlags := 26, slot := 2, constantValue := 0 }, { name := "HOUR", type := .int, accessFlags := 26, slot := 3, constantValue := 0 }, { name := "MINUTE", type := .int, accessFlags := 26, slot := 4, constantValue := 0 }, { name := "SECOND", type := .int, accessFlags := 26, slot := 5, constantValue := 0 }, { name := "FRACTION", type := .int, accessFlags := 26, slot := 6, constantValue := 0 }, { name := "SECONDS_PER_DAY", type := .int, accessFlags := 26, slot := 7, constantValue := 0 }, { name := "DAYS_BEFORE_MONTH", type := (.array .int), accessFlags := 26, slot := 8, constantValue := 0 }, { name := "DAYS_TO_EPOCH", type := .long, accessFlags := 26, slot := 9, constantValue := 0 }, { name := "MAX_FRACTION_DIGITS", type := .int, accessFlags := 26, slot := 10, constantValue := 0 }, { name := "ISO_DATE_TIME", type := (.object "java/lang/String"), accessFlags := 26, slot := 11, constantValue := 0 }, { name := "DIGIT", type := .char, accessFlags := 26, slot := 12, constantValue := 0 }, { name := "NOT_SURE", type := .long, accessFlags := 24, slot := 13, constantValue := 0 }, { name := "layout", type := (.array .byte), accessFlags := 18, slot := 0, constantValue := 0 }, { name := "headEnd", type := .int, accessFlags := 18, slot := 1, constantValue := 0 }, { name := "literalAt", type := (.array .int), accessFlags := 18, slot := 2, constantValue := 0 }, { name := "headLiterals", type := .int, accessFlags := 18, slot := 3, constantValue := 0 }, { name := "fieldAt", type := (.array .int), accessFlags := 18, slot := 4, constantValue := 0 }, { name := "fractionDigits", type := .int, accessFlags := 18, slot := 5, constantValue := 0 }, { name := "isoTail", type := .boolean, accessFlags := 18, slot := 6, constantValue := 0 }]
  methods := #[k2m0, k2m1]
  instanceTypes := #[(.array .byte), .int, (.array .int), .int, (.array .int), .int, .boolean]
  staticTypes := #[.int, .int, .int, .int, .int, .int, .int, .int, (.array .int), .long, .int, (.object "java/lang/String"), .char, .long]
  resolved := Array.replicate 239 none
  statics := some 0 }

def pool3 : Array CpInfo := pool [(1, u "java/lang/Cloneable"), (0, .class_ 1), (0, u "java/lang/Object"), (0, .class_ 3)] 3

/-- java/lang/Cloneable -/
def k3 : Class := { plain "java/lang/Cloneable" (some 0) with
  accessFlags := 1537
  interfaces := #[]
  cf := some (fileOf pool3 2 #[] #[] 1537 4 #[] #[])
  fields := #[]
  methods := #[]
  instanceTypes := #[]
  staticTypes := #[]
  resolved := Array.replicate 8 none
  statics := none }

def pool4 : Array CpInfo := pool [(1, u "java/io/Serializable"), (0, .class_ 1), (0, u "java/lang/Object"), (0, .class_ 3)] 3

/-- java/io/Serializable -/
def k4 : Class := { plain "java/io/Serializable" (some 0) with
  accessFlags := 1537
  interfaces := #[]
  cf := some (fileOf pool4 2 #[] #[] 1537 4 #[] #[])
  fields := #[]
  methods := #[]
  instanceTypes := #[]
  staticTypes := #[]
  resolved := Array.replicate 8 none
  statics := none }

/-- the primitive byte -/
def k5 : Class := { plain "byte" none with kind := .primitive 'B', accessFlags := 0x411 }
/-- [B -/
def k6 : Class := { plain "[B" (some 0) with kind := .array 5 .byte, interfaces := #[3, 4], accessFlags := 1041 }

/-- the primitive int -/
def k7 : Class := { plain "int" none with kind := .primitive 'I', accessFlags := 0x411 }
/-- [I -/
def k8 : Class := { plain "[I" (some 0) with kind := .array 7 .int, interfaces := #[3, 4], accessFlags := 1041 }

def heap : Heap := #[{ cls := 2, slots := #[.int 0, .int 0, .int 0, .int 0, .int 0, .int 0, .int 0, .int 0, .ref 1, .long 0, .int 0, .null, .int 0, .long 0], vm := .statics 2 },
  { cls := 8, slots := #[.int 0, .int 31, .int 59, .int 90, .int 120, .int 151, .int 181, .int 212, .int 243, .int 273, .int 304, .int 334, .int 365], vm := .none }]
def classes : Array Class := #[k0, k1, k2, k3, k4, k5, k6, k7, k8]
def interned : List (Array UInt16 × Addr) := []
def slotsUsed : Nat := 27
def theMethod : MethodId := ⟨1, 1⟩
def args0 : Array Value := #[.int 5, .int 5, .int 5]
def aboutOver (below : List Frame) : State where
  vm := { classes := classes, interned := interned.toArray }
  heap := heap
  slotsUsed := slotsUsed
  threads := #[{ frames := .invoking theMethod args0 :: below }]
def below0 : List Frame := [.native { method := ⟨0, 0⟩, args := #[] }]
def about1 : State := aboutOver below0
def p0 : Program := .bare "" "" ""
def e0 : Env := launch0.env 0 0 0
theorem w_frames : about1.frames = Frame.invoking theMethod args0 :: below0 := rfl
set_option maxRecDepth 65536 in
theorem w_args : argsFit about1.vm theMethod args0 = true := by decide +kernel
set_option maxRecDepth 65536 in
theorem w_heap : heapFits about1 = true := by decide +kernel
set_option maxRecDepth 65536 in
theorem w_runnable : about1.curStatus? = some .runnable := by decide +kernel
set_option maxRecDepth 65536 in
theorem w_alone : about1.alone = true := by decide +kernel
set_option maxRecDepth 65536 in
theorem w_named : about1.methodNamed? x = some theMethod := by decide +kernel
set_option maxRecDepth 65536 in
theorem w_hears : about1.hears theMethod below0 = true := by decide +kernel
set_option maxRecDepth 65536 in
theorem w_ripe : about1.ripe theMethod args0 below0 = true := by decide +kernel
theorem w_running : about1.status = .running := rfl
set_option maxRecDepth 65536 in
theorem w_room : about1.hasRoom e0.platform room_1 = true :=
  launch0.hasRoom_least _ room_1 (by decide +kernel) (by decide +kernel) (by decide +kernel) (by decide +kernel) (by decide +kernel) (by decide +kernel)
theorem allAtoms_all (ts : List Jvm.Cond) (a : Array Jvm.Value) (st : Jvm.State) : (allAtoms ts).before a st = ts.all (fun c => c.before a st) := by
  induction ts with
  | nil => rfl
  | cons c t ih =>
    show (Jvm.Cond.and c (allAtoms t)).before a st = _
    rw [Jvm.Cond.before_and, ih, List.all_cons]
def words1 : List Jvm.Cond := Jvm.Cond.code x code maxLocals ret :: tables_1
/-- a 'code' word, met by the world's own term for the bytes: nothing is compared byte by byte -/
theorem code_word {y : MethodName} {bytes : ByteArray} {mx : Nat} {rt : Option FieldType} {a : Array Value} {s : State} {m : MethodId} {meth : Method} {c : Code} (h1 : s.methodNamed? y = some m) (h2 : s.vm.method? m = some meth) (h3 : meth.code = some c) (h4 : c.code = bytes)
    (h5 : (c.maxLocals == mx && c.exceptionTable.isEmpty && decide (c.maxStack ≤ mostOperands) && decide (meth.sig.returnType = rt) && !meth.locks && decide (parseMethodDescriptor y.desc = some meth.sig)) = true) : (Jvm.Cond.code y bytes mx rt).before a s = true := by
  simp only [Bool.and_eq_true, beq_iff_eq, Bool.not_eq_true', decide_eq_true_eq] at h5
  obtain ⟨⟨⟨⟨⟨g1, g2⟩, g3⟩, g4⟩, g5⟩, g6⟩ := h5
  simp [Cond.before, Cond.holds, Cond.value, h1, h2, h3, h4, g1, g2, g3, g4, g5, g6]
def isCode : Jvm.Cond → Bool
  | .code _ _ _ _ => true
  | _ => false
theorem all_split {L : List Jvm.Cond} {P : Jvm.Cond → Bool} (h1 : L.all (fun c => isCode c || P c) = true) (h2 : ∀ c ∈ L.filter isCode, P c = true) : L.all P = true := by
  refine List.all_eq_true.mpr fun c hc => ?_
  have h := List.all_eq_true.mp h1 c hc
  rcases Bool.eq_false_or_eq_true (isCode c) with hi | hi
  · exact h2 c (List.mem_filter.mpr ⟨hc, hi⟩)
  · simpa [hi] using h
set_option maxRecDepth 65536 in
theorem w_c0 : (Jvm.Cond.code x code maxLocals ret).before args0 about1 = true := code_word (m := ⟨1, 1⟩) (meth := k1m1) (c := k1c1) (by decide +kernel) rfl rfl rfl (by decide +kernel)
set_option maxRecDepth 65536 in
theorem w_c1 : (Jvm.Cond.code ({ cls := "com/example/sessionloom/sessionloom/FixedTimeFormatEpochDayPinLaw", name := "daysIn", desc := "(II)I" } : Jvm.MethodName) method_4_code (2 : Nat) (Option.some Jvm.ClassFile.FieldType.int)).before args0 about1 = true := code_word (m := ⟨1, 3⟩) (meth := k1m3) (c := k1c3) (by decide +kernel) rfl rfl rfl (by decide +kernel)
set_option maxRecDepth 65536 in
theorem w_c2 : (Jvm.Cond.code ({ cls := "com/example/sessionloom/sessionloom/FixedTimeFormat", name := "epochDay", desc := "(III)J" } : Jvm.MethodName) prog_10_method_16_code (8 : Nat) (Option.some Jvm.ClassFile.FieldType.long)).before args0 about1 = true := code_word (m := ⟨2, 0⟩) (meth := k2m0) (c := k2c0) (by decide +kernel) rfl rfl rfl (by decide +kernel)
set_option maxRecDepth 65536 in
theorem w_c3 : (Jvm.Cond.code ({ cls := "com/example/sessionloom/sessionloom/FixedTimeFormat", name := "isLeap", desc := "(I)Z" } : Jvm.MethodName) prog_10_method_18_code (1 : Nat) (Option.some Jvm.ClassFile.FieldType.boolean)).before args0 about1 = true := code_word (m := ⟨2, 1⟩) (meth := k2m1) (c := k2c1) (by decide +kernel) rfl rfl rfl (by decide +kernel)
set_option maxRecDepth 65536 in
theorem w_c4 : (Jvm.Cond.code ({ cls := "com/example/sessionloom/sessionloom/FixedTimeFormatEpochDayPinLaw", name := "reference", desc := "(III)J" } : Jvm.MethodName) method_5_code (15 : Nat) (Option.some Jvm.ClassFile.FieldType.long)).before args0 about1 = true := code_word (m := ⟨1, 4⟩) (meth := k1m4) (c := k1c4) (by decide +kernel) rfl rfl rfl (by decide +kernel)
set_option maxRecDepth 65536 in
theorem w_c5 : (Jvm.Cond.code ({ cls := "com/example/sessionloom/sessionloom/FixedTimeFormatEpochDayPinLaw", name := "leap", desc := "(I)Z" } : Jvm.MethodName) method_3_code (1 : Nat) (Option.some Jvm.ClassFile.FieldType.boolean)).before args0 about1 = true := code_word (m := ⟨1, 2⟩) (meth := k1m2) (c := k1c2) (by decide +kernel) rfl rfl rfl (by decide +kernel)
def codes1 : List Jvm.Cond := [Jvm.Cond.code x code maxLocals ret, Jvm.Cond.code ({ cls := "com/example/sessionloom/sessionloom/FixedTimeFormatEpochDayPinLaw", name := "daysIn", desc := "(II)I" } : Jvm.MethodName) method_4_code (2 : Nat) (Option.some Jvm.ClassFile.FieldType.int), Jvm.Cond.code ({ cls := "com/example/sessionloom/sessionloom/FixedTimeFormat", name := "epochDay", desc := "(III)J" } : Jvm.MethodName) prog_10_method_16_code (8 : Nat) (Option.some Jvm.ClassFile.FieldType.long), Jvm.Cond.code ({ cls := "com/example/sessionloom/sessionloom/FixedTimeFormat", name := "isLeap", desc := "(I)Z" } : Jvm.MethodName) prog_10_method_18_code (1 : Nat) (Option.some Jvm.ClassFile.FieldType.boolean), Jvm.Cond.code ({ cls := "com/example/sessionloom/sessionloom/FixedTimeFormatEpochDayPinLaw", name := "reference", desc := "(III)J" } : Jvm.MethodName) method_5_code (15 : Nat) (Option.some Jvm.ClassFile.FieldType.long), Jvm.Cond.code ({ cls := "com/example/sessionloom/sessionloom/FixedTimeFormatEpochDayPinLaw", name := "leap", desc := "(I)Z" } : Jvm.MethodName) method_3_code (1 : Nat) (Option.some Jvm.ClassFile.FieldType.boolean)]
set_option maxRecDepth 65536 in
theorem codes_eq : words1.filter isCode = codes1 := rfl
theorem w_codes : ∀ c ∈ words1.filter isCode, c.before args0 about1 = true := by
  rw [codes_eq]
  intro c hc
  simp only [codes1, List.mem_cons, List.not_mem_nil, or_false] at hc
  rcases hc with rfl | rfl | rfl | rfl | rfl | rfl
  · exact w_c0
  · exact w_c1
  · exact w_c2
  · exact w_c3
  · exact w_c4
  · exact w_c5
set_option maxRecDepth 65536 in
theorem w_t1 : (words1.take 24).all (fun c => isCode c || c.before args0 about1) = true := by decide +kernel
set_option maxRecDepth 65536 in
theorem w_t2 : (words1.drop 24).all (fun c => isCode c || c.before args0 about1) = true := by decide +kernel
theorem w_tables : (allAtoms (Jvm.Cond.code x code maxLocals ret :: tables_1)).before args0 about1 = true := by
  rw [allAtoms_all]
  show words1.all (fun c => c.before args0 about1) = true
  refine all_split ?_ w_codes
  rw [← List.take_append_drop 24 words1, List.all_append, w_t1, w_t2]
  rfl
set_option maxRecDepth 65536 in
theorem w_case : (Jvm.Cond.and given_1 narrow_1).before args0 about1 = true := by decide +kernel
theorem w_applies : (headSpec (Jvm.Cond.code x code maxLocals ret :: tables_1) room_1).applies x e0.platform about1 = true :=
  (Spec.applies_iff w_frames).mpr ⟨w_running, w_runnable, w_alone, w_named, w_hears, w_ripe, w_room, w_tables⟩
theorem atStart : AtStart classFile x code maxLocals ret World_1 tables_1 room_1 Calls_1 rest_1 Pre_1 launch0 p0 e0 about1 theMethod args0 below0 :=
  ⟨lists_1, trivial, launch0.admits_env _ _ _, launch0.least_env, fairChoices_fair.cas, fairChoices_fair.clock, w_frames, w_args, w_heap, w_applies, trivial, trivial, w_case⟩
end start1
theorem witness_1 : WitnessClaimed_1 := ⟨start1.p0, start1.e0, start1.about1, start1.theMethod, start1.args0, start1.below0, start1.atStart⟩
end Jvm.Pilot.@@N@@
