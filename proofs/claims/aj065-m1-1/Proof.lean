import JvmDerived
import JvmDerived.Pilot.@@N@@Statement
import JvmDerived.Pilot.@@N@@Code
set_option linter.unusedVariables false
set_option linter.unusedSimpArgs false
namespace Jvm.Own
open Jvm Jvm.ClassFile Sem Op Lib Jvm.Free Jvm.Stand Jvm.LawKit Jvm.RoadKit
theorem dup_x2_wp {Q : Unit → Bool → _ → State → Prop} {E : _} {e : Env} {d : Bool} {acts : _} {s : State} : wp Jvm.Op.dup_x2.sem Q E e d acts s ↔
    ∃ f, s.topJava? = some f ∧ ∃ x y rest, f.stack = x :: y :: rest ∧ x.category = 1 ∧
      if y.category = 2 then Q () true acts (s.setTop { f with stack := x :: y :: x :: rest })
      else ∃ z rest', rest = z :: rest' ∧ z.category = 1 ∧ Q () true acts (s.setTop { f with stack := x :: y :: z :: x :: rest' }) := by
  wp_entry s [Jvm.Op.dup_x2.sem]
  constructor
  · rintro ⟨x, _, h1, hc, y, r, rfl, h⟩
    exact ⟨x, y, r, h1, hc, h⟩
  · rintro ⟨x, y, r, h1, hc, h⟩
    exact ⟨x, _, h1, hc, y, r, rfl, h⟩
theorem dupX2' {tb : Tables} [Ours tb] {e : Env} {below : List Frame} {T target : State} {m : MethodId} {c : Code} {g : JFrame} (h : At T m c below) (hx : tb.exec = Jvm.exec) (hg : g.method = m) {x y z : Value} {rest : List Value} (hd : decode c.code g.pc = .ok (.dup_x2, 1)) (hs : g.stack = x :: y :: z :: rest) (hc : x.category = 1) (hc' : y.category = 1) (hc'' : z.category = 1)
    (hr : Steps tb e below (T.setTop { g with pc := g.pc + 1, stack := x :: y :: z :: x :: rest }) target) : Steps tb e below (T.setTop g) target := by
  subst hg
  jvm_step h [h.top, hx, hd, hs, hc, hc', hc'', dup_x2_wp]
  exact hr
end Jvm.Own

namespace Jvm.Own
open Jvm Jvm.ClassFile Sem Op Lib Jvm.Free Jvm.Stand Jvm.LawKit Jvm.RoadKit
section Core
variable {p : Program} {l : Launch} {e : Env} {R : Room} {s : State} {m : MethodId} {args : Array Value} {below : List Frame} {meth : Method} {c : Code} {Z : State} {own nm : String} {bytes : ByteArray} {maxL : Nat} {ret : Option FieldType} {n0 : Nat} {a0 : Array Value}
  {T T' : State} {h h' : Heap} {cells slots : Nat} {Q : Option Value → Heap → Prop} {Ls : Array Slot} {st : List Value} {pc n : Nat}
/-- where a walk stands: the state T, its heap h, the cells and slots made so far; nothing below n0 written -/
def Pos (p : Program) (l : Launch) (e : Env) (R : Room) (s : State) (m : MethodId) (args : Array Value) (below : List Frame) (meth : Method) (c : Code) (Z : State) (own nm : String) (bytes : ByteArray) (maxL : Nat) (ret : Option FieldType) (n0 : Nat) (T : State) (h : Heap) (cells slots : Nat) : Prop :=
  (∃ locs, Stand p l e R s m args below meth c T locs cells slots ∧ Fr n0 locs) ∧ T.heap = h ∧ p.tables.exec = Jvm.exec ∧ c.code = bytes ∧ c.maxLocals = maxL ∧ s.vm.findClass own = some m.cls ∧ Z.Warmed39 s.vm ∧ meth.sig.returnType = ret ∧ meth.name = nm ∧ meth.locks = false ∧ n0 ≤ s.heap.size
/-- from the frame g the method comes to its end as Q says -/
def Ends (p : Program) (e : Env) (below : List Frame) (s : State) (R : Room) (n0 : Nat) (Q : Option Value → Heap → Prop) (T : State) (g : JFrame) : Prop :=
  ∃ s₂ o, Steps p.tables e below (T.setTop g) s₂ ∧ s₂.status = .running ∧ Ended s₂ below o ∧ ∃ v L, o = .returned v ∧ (Q v s₂.heap ∧ Fr n0 L) ∧ FrameEnd s o s₂ L R.cells R.slots
/-- a method's contract at given arguments and a given heap -/
def Meth (l : Launch) (Z : State) (y : MethodName) (bytes : ByteArray) (maxL : Nat) (ret : Option FieldType) (rm : Room) (as : Array Value) (h : Heap) (n0 : Nat) (Q : Option Value → Heap → Prop) : Prop :=
  ∀ ws : List Cond, MetFree l y (head1 (Cond.code y bytes maxL ret :: ws) rm) (fun a U => a = as ∧ Z.Warmed39 U.vm ∧ U.heap = h) (fun _ _ _ _ _ => True) (fun _ U o U' => ∃ v L, o = .returned v ∧ (Q v U'.heap ∧ Fr n0 L) ∧ FrameEnd U o U' L rm.cells rm.slots)
theorem Pos.stand (P : Pos p l e R s m args below meth c Z own nm bytes maxL ret n0 T h cells slots) : ∃ locs, Stand p l e R s m args below meth c T locs cells slots ∧ Fr n0 locs := P.1
theorem Pos.heap (P : Pos p l e R s m args below meth c Z own nm bytes maxL ret n0 T h cells slots) : T.heap = h := P.2.1
theorem Pos.hx (P : Pos p l e R s m args below meth c Z own nm bytes maxL ret n0 T h cells slots) : p.tables.exec = Jvm.exec := P.2.2.1
theorem Pos.code (P : Pos p l e R s m args below meth c Z own nm bytes maxL ret n0 T h cells slots) : c.code = bytes := P.2.2.2.1
theorem Pos.maxl (P : Pos p l e R s m args below meth c Z own nm bytes maxL ret n0 T h cells slots) : c.maxLocals = maxL := P.2.2.2.2.1
theorem Pos.own' (P : Pos p l e R s m args below meth c Z own nm bytes maxL ret n0 T h cells slots) : s.vm.findClass own = some m.cls := P.2.2.2.2.2.1
theorem Pos.hZ (P : Pos p l e R s m args below meth c Z own nm bytes maxL ret n0 T h cells slots) : Z.Warmed39 s.vm := P.2.2.2.2.2.2.1
theorem Pos.rets (P : Pos p l e R s m args below meth c Z own nm bytes maxL ret n0 T h cells slots) : meth.sig.returnType = ret := P.2.2.2.2.2.2.2.1
theorem Pos.name (P : Pos p l e R s m args below meth c Z own nm bytes maxL ret n0 T h cells slots) : meth.name = nm := P.2.2.2.2.2.2.2.2.1
theorem Pos.locks (P : Pos p l e R s m args below meth c Z own nm bytes maxL ret n0 T h cells slots) : meth.locks = false := P.2.2.2.2.2.2.2.2.2.1
theorem Pos.low0 (P : Pos p l e R s m args below meth c Z own nm bytes maxL ret n0 T h cells slots) : n0 ≤ s.heap.size := P.2.2.2.2.2.2.2.2.2.2
theorem Pos.low (P : Pos p l e R s m args below meth c Z own nm bytes maxL ret n0 T h cells slots) : n0 ≤ h.size := by
  obtain ⟨_, X, -⟩ := P.stand; rw [← P.heap]; exact Nat.le_trans P.low0 X.same.2.1
theorem Pos.here (P : Pos p l e R s m args below meth c Z own nm bytes maxL ret n0 T h cells slots) : At T m c below := by obtain ⟨_, X, -⟩ := P.stand; exact X.here
/-- on to another state of the same walk -/
theorem Pos.to (P : Pos p l e R s m args below meth c Z own nm bytes maxL ret n0 T h cells slots) {cells' slots' : Nat} {locs : List Loc} (X : Stand p l e R s m args below meth c T' locs cells' slots') (N : Fr n0 locs) (e' : T'.heap = h') : Pos p l e R s m args below meth c Z own nm bytes maxL ret n0 T' h' cells' slots' :=
  ⟨⟨_, X, N⟩, e', P.2.2.1, P.2.2.2.1, P.2.2.2.2.1, P.2.2.2.2.2.1, P.2.2.2.2.2.2.1, P.2.2.2.2.2.2.2.1, P.2.2.2.2.2.2.2.2.1, P.2.2.2.2.2.2.2.2.2.1, P.low0⟩
theorem Ends.via {g g' : JFrame} (E : Ends p e below s R n0 Q T' g') (k : ∀ t, Steps p.tables e below (T'.setTop g') t → Steps p.tables e below (T.setTop g) t) : Ends p e below s R n0 Q T g := by
  obtain ⟨s₂, o, h1, h2⟩ := E; exact ⟨s₂, o, k _ h1, h2⟩
theorem Ends.cast {g g' : JFrame} (q : g = g') (E : Ends p e below s R n0 Q T g') : Ends p e below s R n0 Q T g := q ▸ E
/-- a value by a name -/
theorem nameI {α : Type} {x : α} {F : α → Prop} (k : ∀ z, z = x → F z) : F x := k x rfl
theorem Meth.of {y : MethodName} {rm : Room} {as : Array Value} (hcls : plainFor y = true) (hlow : n0 ≤ h.size)
    (body : ∀ p e s m args below meth c T, Pos p l e rm s m args below meth c Z y.cls y.name bytes maxL ret n0 T h 0 0 → Ends p e below s rm n0 Q T (entryFrame m as maxL)) : Meth l Z y bytes maxL ret rm as h n0 Q := by
  intro ws
  refine MetFree.of_bodySF hcls hisR ?_
  intro p e s m args below meth c s₁ Bd hml0 hP hK
  obtain ⟨rfl, hZ, hh⟩ := hP
  have hown : s.vm.findClass y.cls = some m.cls := findClass_of_methodNamed Bd.named
  have hnm := (name_of_methodNamed Bd.named Bd.method).1
  have X0 : Stand p l e rm s m args below meth c s₁ [] 0 0 := Stand.of_body Bd
  have e0 : s₁.heap = h := by rw [← hh, Bd.state]; rfl
  exact body p e s m args below meth c s₁ ⟨⟨[], X0, Fr.nil n0⟩, e0, Bd.exec, Bd.bytes, hml0, hown, hZ, Bd.returns, hnm, Bd.notSynchronized, hh ▸ hlow⟩
/-! returns -/
theorem retV (P : Pos p l e R s m args below meth c Z own nm bytes maxL none n0 T h cells slots) (hd : decode bytes pc = .ok (.return_, 1)) (hc : cells ≤ R.cells) (hs : slots ≤ R.slots) (q : Q none h) : Ends p e below s R n0 Q T (mkF m pc Ls []) := by
  obtain ⟨locs, X, N⟩ := P.stand
  obtain ⟨fs, hr, hrun, hended, hW, hsame⟩ := X.leave (v := none) (fun _ => rfl) P.locks
  refine ⟨_, _, X.returnOut P.hx P.rets (hb P.code hd) hr, hrun, hended, _, _, rfl, ⟨?_, N⟩, ⟨_, rfl⟩, hW, hsame.mono hc hs⟩
  show Q none T.heap
  rw [P.heap]; exact q
theorem retA {w : Value} {t : FieldType} {i : Instr} (P : Pos p l e R s m args below meth c Z own nm bytes maxL (some t) n0 T h cells slots) (hd : decode bytes pc = .ok (i, 1)) (hn : narrow t w = w)
    (hi : (i = .ireturn ∧ (t = .int ∨ t = .boolean ∨ t = .byte ∨ t = .char ∨ t = .short) ∧ ∃ z, w = .int z) ∨ (i = .lreturn ∧ t = .long ∧ ∃ z, w = .long z) ∨ (i = .dreturn ∧ t = .double ∧ ∃ z, w = .double z) ∨ (i = .freturn ∧ t = .float ∧ ∃ z, w = .float z) ∨ (i = .areturn ∧ t.isReference = true ∧ w.isRef = true))
    (hc : cells ≤ R.cells) (hs : slots ≤ R.slots) (q : Q (some w) h) : Ends p e below s R n0 Q T (mkF m pc Ls (w :: st)) := by
  obtain ⟨locs, X, N⟩ := P.stand
  obtain ⟨fs, hr, hrun, hended, hW, hsame⟩ := X.leave (v := some w) (fun h => by rw [P.rets] at h; cases h) P.locks
  refine ⟨_, _, retOut X P.hx P.rets hn hi (hb P.code hd) hr, hrun, hended, _, _, rfl, ⟨?_, N⟩, ⟨_, rfl⟩, hW, hsame.mono hc hs⟩
  show Q (some w) T.heap
  rw [P.heap]; exact q
theorem retI {x : Int32} (P : Pos p l e R s m args below meth c Z own nm bytes maxL (some .int) n0 T h cells slots) (hd : decode bytes pc = .ok (.ireturn, 1)) (hc : cells ≤ R.cells) (hs : slots ≤ R.slots) (q : Q (some (.int x)) h) : Ends p e below s R n0 Q T (mkF m pc Ls (.int x :: st)) :=
  retA P hd rfl (Or.inl ⟨rfl, Or.inl rfl, _, rfl⟩) hc hs q
theorem retL {x : Int64} (P : Pos p l e R s m args below meth c Z own nm bytes maxL (some .long) n0 T h cells slots) (hd : decode bytes pc = .ok (.lreturn, 1)) (hc : cells ≤ R.cells) (hs : slots ≤ R.slots) (q : Q (some (.long x)) h) : Ends p e below s R n0 Q T (mkF m pc Ls (.long x :: st)) :=
  retA P hd rfl (Or.inr (Or.inl ⟨rfl, rfl, _, rfl⟩)) hc hs q
theorem retR {w : Value} {C : String} (P : Pos p l e R s m args below meth c Z own nm bytes maxL (some (.object C)) n0 T h cells slots) (hd : decode bytes pc = .ok (.areturn, 1)) (hw : w.isRef = true) (hc : cells ≤ R.cells) (hs : slots ≤ R.slots) (q : Q (some w) h) : Ends p e below s R n0 Q T (mkF m pc Ls (w :: st)) := by
  refine retA P hd ?_ (Or.inr (Or.inr (Or.inr (Or.inr ⟨rfl, rfl, hw⟩)))) hc hs q
  rcases ref_cases hw with rfl | ⟨z, rfl⟩ <;> rfl
/-- a boolean's return narrows to the last bit -/
theorem retZ {x : Int32} (P : Pos p l e R s m args below meth c Z own nm bytes maxL (some .boolean) n0 T h cells slots) (hd : decode bytes pc = .ok (.ireturn, 1)) (hx : x = 0 ∨ x = 1) (hc : cells ≤ R.cells) (hs : slots ≤ R.slots) (q : Q (some (.int x)) h) : Ends p e below s R n0 Q T (mkF m pc Ls (.int x :: st)) := by
  refine retA P hd ?_ (Or.inl ⟨rfl, Or.inr (Or.inl rfl), _, rfl⟩) hc hs q
  rcases hx with rfl | rfl <;> rfl
theorem retB {x : Int32} (P : Pos p l e R s m args below meth c Z own nm bytes maxL (some .byte) n0 T h cells slots) (hd : decode bytes pc = .ok (.ireturn, 1)) (hx : x.toInt8.toInt32 = x) (hc : cells ≤ R.cells) (hs : slots ≤ R.slots) (q : Q (some (.int x)) h) : Ends p e below s R n0 Q T (mkF m pc Ls (.int x :: st)) :=
  retA P hd (by show Value.int x.toInt8.toInt32 = Value.int x; rw [hx]) (Or.inl ⟨rfl, Or.inr (Or.inr (Or.inl rfl)), _, rfl⟩) hc hs q
theorem iloadN (P : Pos p l e R s m args below meth c Z own nm bytes maxL ret n0 T h cells slots) {j : Fin 4} {v : Int32} (hd : decode bytes pc = .ok (.iload_n j, 1)) (hl : Ls[j.val]? = some (.val (.int v))) (hn : n = pc + 1)
    (E : Ends p e below s R n0 Q T (mkF m n Ls (.int v :: st))) : Ends p e below s R n0 Q T (mkF m pc Ls st) := by
  subst hn; exact E.via fun t k => XS.iloadN P.here P.hx rfl (hb P.code hd) hl k
theorem iload (P : Pos p l e R s m args below meth c Z own nm bytes maxL ret n0 T h cells slots) {j : Nat} {v : Int32} (hd : decode bytes pc = .ok (.iload j, 2)) (hl : Ls[j]? = some (.val (.int v))) (hn : n = pc + 2)
    (E : Ends p e below s R n0 Q T (mkF m n Ls (.int v :: st))) : Ends p e below s R n0 Q T (mkF m pc Ls st) := by
  subst hn; exact E.via fun t k => XS.iload P.here P.hx rfl (hb P.code hd) hl k
theorem istoreN (P : Pos p l e R s m args below meth c Z own nm bytes maxL ret n0 T h cells slots) {j : Fin 4} {v : Int32} {l' : Array Slot} (hd : decode bytes pc = .ok (.istore_n j, 1)) (hl : storeLocals Ls j.val (.int v) = some l') (hn : n = pc + 1)
    (E : Ends p e below s R n0 Q T (mkF m n l' st)) : Ends p e below s R n0 Q T (mkF m pc Ls (.int v :: st)) := by
  subst hn; exact E.via fun t k => XS.istoreN P.here P.hx rfl (hb P.code hd) rfl hl k
theorem istore (P : Pos p l e R s m args below meth c Z own nm bytes maxL ret n0 T h cells slots) {j : Nat} {v : Int32} {l' : Array Slot} (hd : decode bytes pc = .ok (.istore j, 2)) (hl : storeLocals Ls j (.int v) = some l') (hn : n = pc + 2)
    (E : Ends p e below s R n0 Q T (mkF m n l' st)) : Ends p e below s R n0 Q T (mkF m pc Ls (.int v :: st)) := by
  subst hn; exact E.via fun t k => XS.istore P.here P.hx rfl (hb P.code hd) rfl hl k
theorem lloadN (P : Pos p l e R s m args below meth c Z own nm bytes maxL ret n0 T h cells slots) {j : Fin 4} {v : Int64} (hd : decode bytes pc = .ok (.lload_n j, 1)) (hl : Ls[j.val]? = some (.val (.long v))) (hn : n = pc + 1)
    (E : Ends p e below s R n0 Q T (mkF m n Ls (.long v :: st))) : Ends p e below s R n0 Q T (mkF m pc Ls st) := by
  subst hn; exact E.via fun t k => XS.lloadN P.here P.hx rfl (hb P.code hd) hl k
theorem lload (P : Pos p l e R s m args below meth c Z own nm bytes maxL ret n0 T h cells slots) {j : Nat} {v : Int64} (hd : decode bytes pc = .ok (.lload j, 2)) (hl : Ls[j]? = some (.val (.long v))) (hn : n = pc + 2)
    (E : Ends p e below s R n0 Q T (mkF m n Ls (.long v :: st))) : Ends p e below s R n0 Q T (mkF m pc Ls st) := by
  subst hn; exact E.via fun t k => XS.lload P.here P.hx rfl (hb P.code hd) hl k
theorem lstoreN (P : Pos p l e R s m args below meth c Z own nm bytes maxL ret n0 T h cells slots) {j : Fin 4} {v : Int64} {l' : Array Slot} (hd : decode bytes pc = .ok (.lstore_n j, 1)) (hl : storeLocals Ls j.val (.long v) = some l') (hn : n = pc + 1)
    (E : Ends p e below s R n0 Q T (mkF m n l' st)) : Ends p e below s R n0 Q T (mkF m pc Ls (.long v :: st)) := by
  subst hn; exact E.via fun t k => XS.lstoreN P.here P.hx rfl (hb P.code hd) rfl hl k
theorem lstore (P : Pos p l e R s m args below meth c Z own nm bytes maxL ret n0 T h cells slots) {j : Nat} {v : Int64} {l' : Array Slot} (hd : decode bytes pc = .ok (.lstore j, 2)) (hl : storeLocals Ls j (.long v) = some l') (hn : n = pc + 2)
    (E : Ends p e below s R n0 Q T (mkF m n l' st)) : Ends p e below s R n0 Q T (mkF m pc Ls (.long v :: st)) := by
  subst hn; exact E.via fun t k => XS.lstore P.here P.hx rfl (hb P.code hd) rfl hl k
theorem aloadN (P : Pos p l e R s m args below meth c Z own nm bytes maxL ret n0 T h cells slots) {j : Fin 4} {v : Value} (hd : decode bytes pc = .ok (.aload_n j, 1)) (hl : Ls[j.val]? = some (.val v)) (hv : v.isRef = true) (hn : n = pc + 1)
    (E : Ends p e below s R n0 Q T (mkF m n Ls (v :: st))) : Ends p e below s R n0 Q T (mkF m pc Ls st) := by
  subst hn; exact E.via fun t k => XS.aloadN P.here P.hx rfl (hb P.code hd) hl hv k
theorem aload (P : Pos p l e R s m args below meth c Z own nm bytes maxL ret n0 T h cells slots) {j : Nat} {v : Value} (hd : decode bytes pc = .ok (.aload j, 2)) (hl : Ls[j]? = some (.val v)) (hv : v.isRef = true) (hn : n = pc + 2)
    (E : Ends p e below s R n0 Q T (mkF m n Ls (v :: st))) : Ends p e below s R n0 Q T (mkF m pc Ls st) := by
  subst hn; exact E.via fun t k => XS.aload P.here P.hx rfl (hb P.code hd) hl hv k
theorem astoreN (P : Pos p l e R s m args below meth c Z own nm bytes maxL ret n0 T h cells slots) {j : Fin 4} {v : Value} {l' : Array Slot} (hd : decode bytes pc = .ok (.astore_n j, 1)) (hv : v.isRef = true) (hl : storeLocals Ls j.val v = some l') (hn : n = pc + 1)
    (E : Ends p e below s R n0 Q T (mkF m n l' st)) : Ends p e below s R n0 Q T (mkF m pc Ls (v :: st)) := by
  subst hn; exact E.via fun t k => XS.astoreN P.here P.hx rfl (hb P.code hd) rfl hv hl k
theorem astore (P : Pos p l e R s m args below meth c Z own nm bytes maxL ret n0 T h cells slots) {j : Nat} {v : Value} {l' : Array Slot} (hd : decode bytes pc = .ok (.astore j, 2)) (hv : v.isRef = true) (hl : storeLocals Ls j v = some l') (hn : n = pc + 2)
    (E : Ends p e below s R n0 Q T (mkF m n l' st)) : Ends p e below s R n0 Q T (mkF m pc Ls (v :: st)) := by
  subst hn; exact E.via fun t k => XS.astore P.here P.hx rfl (hb P.code hd) rfl hv hl k
theorem iconst (P : Pos p l e R s m args below meth c Z own nm bytes maxL ret n0 T h cells slots) {i : Int} (hd : decode bytes pc = .ok (.iconst i, 1)) {x : Int32} (hx : x = Int32.ofInt i) (hn : n = pc + 1)
    (E : Ends p e below s R n0 Q T (mkF m n Ls (.int x :: st))) : Ends p e below s R n0 Q T (mkF m pc Ls st) := by
  subst hn; exact E.via fun t k => XS.iconst P.here P.hx rfl (hb P.code hd) (by subst hx; exact k)
theorem bipush (P : Pos p l e R s m args below meth c Z own nm bytes maxL ret n0 T h cells slots) {i : Int} (hd : decode bytes pc = .ok (.bipush i, 2)) {x : Int32} (hx : x = (Int8.ofInt i).toInt32) (hn : n = pc + 2)
    (E : Ends p e below s R n0 Q T (mkF m n Ls (.int x :: st))) : Ends p e below s R n0 Q T (mkF m pc Ls st) := by
  subst hn; exact E.via fun t k => XS.bipush P.here P.hx rfl (hb P.code hd) (by subst hx; exact k)
theorem sipush (P : Pos p l e R s m args below meth c Z own nm bytes maxL ret n0 T h cells slots) {i : Int} (hd : decode bytes pc = .ok (.sipush i, 3)) {x : Int32} (hx : x = (Int16.ofInt i).toInt32) (hn : n = pc + 3)
    (E : Ends p e below s R n0 Q T (mkF m n Ls (.int x :: st))) : Ends p e below s R n0 Q T (mkF m pc Ls st) := by
  subst hn; exact E.via fun t k => XS.sipush P.here P.hx rfl (hb P.code hd) (by subst hx; exact k)
theorem lconst (P : Pos p l e R s m args below meth c Z own nm bytes maxL ret n0 T h cells slots) {i : Fin 2} (hd : decode bytes pc = .ok (.lconst i, 1)) {x : Int64} (hx : x = Int64.ofNat i) (hn : n = pc + 1)
    (E : Ends p e below s R n0 Q T (mkF m n Ls (.long x :: st))) : Ends p e below s R n0 Q T (mkF m pc Ls st) := by
  subst hn; exact E.via fun t k => XS.lconst P.here P.hx rfl (hb P.code hd) (by subst hx; exact k)
theorem aconstNull (P : Pos p l e R s m args below meth c Z own nm bytes maxL ret n0 T h cells slots) (hd : decode bytes pc = .ok (.aconst_null, 1)) (hn : n = pc + 1)
    (E : Ends p e below s R n0 Q T (mkF m n Ls (.null :: st))) : Ends p e below s R n0 Q T (mkF m pc Ls st) := by
  subst hn; exact E.via fun t k => XS.aconstNull P.here P.hx rfl (hb P.code hd) k
theorem iadd (P : Pos p l e R s m args below meth c Z own nm bytes maxL ret n0 T h cells slots) {x y : Int32} (hd : decode bytes pc = .ok (.iadd, 1)) (hn : n = pc + 1)
    (E : Ends p e below s R n0 Q T (mkF m n Ls (.int (x + y) :: st))) : Ends p e below s R n0 Q T (mkF m pc Ls (.int y :: .int x :: st)) := by
  subst hn; exact E.via fun t k => XS.iadd P.here P.hx rfl (hb P.code hd) rfl k
theorem isub (P : Pos p l e R s m args below meth c Z own nm bytes maxL ret n0 T h cells slots) {x y : Int32} (hd : decode bytes pc = .ok (.isub, 1)) (hn : n = pc + 1)
    (E : Ends p e below s R n0 Q T (mkF m n Ls (.int (x - y) :: st))) : Ends p e below s R n0 Q T (mkF m pc Ls (.int y :: .int x :: st)) := by
  subst hn; exact E.via fun t k => XS.isub P.here P.hx rfl (hb P.code hd) rfl k
theorem imul (P : Pos p l e R s m args below meth c Z own nm bytes maxL ret n0 T h cells slots) {x y : Int32} (hd : decode bytes pc = .ok (.imul, 1)) (hn : n = pc + 1)
    (E : Ends p e below s R n0 Q T (mkF m n Ls (.int (x * y) :: st))) : Ends p e below s R n0 Q T (mkF m pc Ls (.int y :: .int x :: st)) := by
  subst hn; exact E.via fun t k => XS.imul P.here P.hx rfl (hb P.code hd) rfl k
theorem iand (P : Pos p l e R s m args below meth c Z own nm bytes maxL ret n0 T h cells slots) {x y : Int32} (hd : decode bytes pc = .ok (.iand, 1)) (hn : n = pc + 1)
    (E : Ends p e below s R n0 Q T (mkF m n Ls (.int (x &&& y) :: st))) : Ends p e below s R n0 Q T (mkF m pc Ls (.int y :: .int x :: st)) := by
  subst hn; exact E.via fun t k => XS.iand P.here P.hx rfl (hb P.code hd) rfl k
theorem ior (P : Pos p l e R s m args below meth c Z own nm bytes maxL ret n0 T h cells slots) {x y : Int32} (hd : decode bytes pc = .ok (.ior, 1)) (hn : n = pc + 1)
    (E : Ends p e below s R n0 Q T (mkF m n Ls (.int (x ||| y) :: st))) : Ends p e below s R n0 Q T (mkF m pc Ls (.int y :: .int x :: st)) := by
  subst hn; exact E.via fun t k => XS.ior P.here P.hx rfl (hb P.code hd) rfl k
theorem ixor (P : Pos p l e R s m args below meth c Z own nm bytes maxL ret n0 T h cells slots) {x y : Int32} (hd : decode bytes pc = .ok (.ixor, 1)) (hn : n = pc + 1)
    (E : Ends p e below s R n0 Q T (mkF m n Ls (.int (x ^^^ y) :: st))) : Ends p e below s R n0 Q T (mkF m pc Ls (.int y :: .int x :: st)) := by
  subst hn; exact E.via fun t k => XS.ixor P.here P.hx rfl (hb P.code hd) rfl k
theorem ladd (P : Pos p l e R s m args below meth c Z own nm bytes maxL ret n0 T h cells slots) {x y : Int64} (hd : decode bytes pc = .ok (.ladd, 1)) (hn : n = pc + 1)
    (E : Ends p e below s R n0 Q T (mkF m n Ls (.long (x + y) :: st))) : Ends p e below s R n0 Q T (mkF m pc Ls (.long y :: .long x :: st)) := by
  subst hn; exact E.via fun t k => XS.ladd P.here P.hx rfl (hb P.code hd) rfl k
theorem lsub (P : Pos p l e R s m args below meth c Z own nm bytes maxL ret n0 T h cells slots) {x y : Int64} (hd : decode bytes pc = .ok (.lsub, 1)) (hn : n = pc + 1)
    (E : Ends p e below s R n0 Q T (mkF m n Ls (.long (x - y) :: st))) : Ends p e below s R n0 Q T (mkF m pc Ls (.long y :: .long x :: st)) := by
  subst hn; exact E.via fun t k => XS.lsub P.here P.hx rfl (hb P.code hd) rfl k
theorem lmul (P : Pos p l e R s m args below meth c Z own nm bytes maxL ret n0 T h cells slots) {x y : Int64} (hd : decode bytes pc = .ok (.lmul, 1)) (hn : n = pc + 1)
    (E : Ends p e below s R n0 Q T (mkF m n Ls (.long (x * y) :: st))) : Ends p e below s R n0 Q T (mkF m pc Ls (.long y :: .long x :: st)) := by
  subst hn; exact E.via fun t k => XS.lmul P.here P.hx rfl (hb P.code hd) rfl k
theorem land (P : Pos p l e R s m args below meth c Z own nm bytes maxL ret n0 T h cells slots) {x y : Int64} (hd : decode bytes pc = .ok (.land, 1)) (hn : n = pc + 1)
    (E : Ends p e below s R n0 Q T (mkF m n Ls (.long (x &&& y) :: st))) : Ends p e below s R n0 Q T (mkF m pc Ls (.long y :: .long x :: st)) := by
  subst hn; exact E.via fun t k => XS.land P.here P.hx rfl (hb P.code hd) rfl k
theorem lor (P : Pos p l e R s m args below meth c Z own nm bytes maxL ret n0 T h cells slots) {x y : Int64} (hd : decode bytes pc = .ok (.lor, 1)) (hn : n = pc + 1)
    (E : Ends p e below s R n0 Q T (mkF m n Ls (.long (x ||| y) :: st))) : Ends p e below s R n0 Q T (mkF m pc Ls (.long y :: .long x :: st)) := by
  subst hn; exact E.via fun t k => XS.lor P.here P.hx rfl (hb P.code hd) rfl k
theorem lxor (P : Pos p l e R s m args below meth c Z own nm bytes maxL ret n0 T h cells slots) {x y : Int64} (hd : decode bytes pc = .ok (.lxor, 1)) (hn : n = pc + 1)
    (E : Ends p e below s R n0 Q T (mkF m n Ls (.long (x ^^^ y) :: st))) : Ends p e below s R n0 Q T (mkF m pc Ls (.long y :: .long x :: st)) := by
  subst hn; exact E.via fun t k => XS.lxor P.here P.hx rfl (hb P.code hd) rfl k
theorem ishl (P : Pos p l e R s m args below meth c Z own nm bytes maxL ret n0 T h cells slots) {x y : Int32} (hd : decode bytes pc = .ok (.ishl, 1)) (hn : n = pc + 1)
    (E : Ends p e below s R n0 Q T (mkF m n Ls (.int (x <<< (y &&& 31)) :: st))) : Ends p e below s R n0 Q T (mkF m pc Ls (.int y :: .int x :: st)) := by
  subst hn; exact E.via fun t k => XS.ishl P.here P.hx rfl (hb P.code hd) rfl k
theorem ishr (P : Pos p l e R s m args below meth c Z own nm bytes maxL ret n0 T h cells slots) {x y : Int32} (hd : decode bytes pc = .ok (.ishr, 1)) (hn : n = pc + 1)
    (E : Ends p e below s R n0 Q T (mkF m n Ls (.int (x >>> (y &&& 31)) :: st))) : Ends p e below s R n0 Q T (mkF m pc Ls (.int y :: .int x :: st)) := by
  subst hn; exact E.via fun t k => XS.ishr P.here P.hx rfl (hb P.code hd) rfl k
theorem iushr (P : Pos p l e R s m args below meth c Z own nm bytes maxL ret n0 T h cells slots) {x y : Int32} (hd : decode bytes pc = .ok (.iushr, 1)) (hn : n = pc + 1)
    (E : Ends p e below s R n0 Q T (mkF m n Ls (.int ((x.toUInt32 >>> (y &&& 31).toUInt32).toInt32) :: st))) : Ends p e below s R n0 Q T (mkF m pc Ls (.int y :: .int x :: st)) := by
  subst hn; exact E.via fun t k => XS.iushr P.here P.hx rfl (hb P.code hd) rfl k
theorem lshl (P : Pos p l e R s m args below meth c Z own nm bytes maxL ret n0 T h cells slots) {x : Int64} {y : Int32} (hd : decode bytes pc = .ok (.lshl, 1)) (hn : n = pc + 1)
    (E : Ends p e below s R n0 Q T (mkF m n Ls (.long (x <<< (y &&& 0x3f).toInt64) :: st))) : Ends p e below s R n0 Q T (mkF m pc Ls (.int y :: .long x :: st)) := by
  subst hn; exact E.via fun t k => XS.lshl P.here P.hx rfl (hb P.code hd) rfl k
theorem lshr (P : Pos p l e R s m args below meth c Z own nm bytes maxL ret n0 T h cells slots) {x : Int64} {y : Int32} (hd : decode bytes pc = .ok (.lshr, 1)) (hn : n = pc + 1)
    (E : Ends p e below s R n0 Q T (mkF m n Ls (.long (x >>> (y &&& 0x3f).toInt64) :: st))) : Ends p e below s R n0 Q T (mkF m pc Ls (.int y :: .long x :: st)) := by
  subst hn; exact E.via fun t k => XS.lshr P.here P.hx rfl (hb P.code hd) rfl k
theorem lushr (P : Pos p l e R s m args below meth c Z own nm bytes maxL ret n0 T h cells slots) {x : Int64} {y : Int32} (hd : decode bytes pc = .ok (.lushr, 1)) (hn : n = pc + 1)
    (E : Ends p e below s R n0 Q T (mkF m n Ls (.long ((x.toUInt64 >>> (y &&& 0x3f).toInt64.toUInt64).toInt64) :: st))) : Ends p e below s R n0 Q T (mkF m pc Ls (.int y :: .long x :: st)) := by
  subst hn; exact E.via fun t k => XS.lushr P.here P.hx rfl (hb P.code hd) rfl k
theorem idiv (P : Pos p l e R s m args below meth c Z own nm bytes maxL ret n0 T h cells slots) {x y : Int32} (hd : decode bytes pc = .ok (.idiv, 1)) (hy : y ≠ 0) (hn : n = pc + 1)
    (E : Ends p e below s R n0 Q T (mkF m n Ls (.int (x / y) :: st))) : Ends p e below s R n0 Q T (mkF m pc Ls (.int y :: .int x :: st)) := by
  subst hn; exact E.via fun t k => XS.idiv P.here P.hx rfl (hb P.code hd) rfl hy k
theorem irem (P : Pos p l e R s m args below meth c Z own nm bytes maxL ret n0 T h cells slots) {x y : Int32} (hd : decode bytes pc = .ok (.irem, 1)) (hy : y ≠ 0) (hn : n = pc + 1)
    (E : Ends p e below s R n0 Q T (mkF m n Ls (.int (x % y) :: st))) : Ends p e below s R n0 Q T (mkF m pc Ls (.int y :: .int x :: st)) := by
  subst hn; obtain ⟨_, X, -⟩ := P.stand; exact E.via fun t k => Jvm.RoadKit.iremM X P.hx rfl (hb P.code hd) rfl hy k
theorem ldiv (P : Pos p l e R s m args below meth c Z own nm bytes maxL ret n0 T h cells slots) {x y : Int64} (hd : decode bytes pc = .ok (.ldiv, 1)) (hy : y ≠ 0) (hn : n = pc + 1)
    (E : Ends p e below s R n0 Q T (mkF m n Ls (.long (x / y) :: st))) : Ends p e below s R n0 Q T (mkF m pc Ls (.long y :: .long x :: st)) := by
  subst hn; exact E.via fun t k => XS.ldiv P.here P.hx rfl (hb P.code hd) rfl hy k
theorem lrem (P : Pos p l e R s m args below meth c Z own nm bytes maxL ret n0 T h cells slots) {x y : Int64} (hd : decode bytes pc = .ok (.lrem, 1)) (hy : y ≠ 0) (hn : n = pc + 1)
    (E : Ends p e below s R n0 Q T (mkF m n Ls (.long (x - (x / y) * y) :: st))) : Ends p e below s R n0 Q T (mkF m pc Ls (.long y :: .long x :: st)) := by
  subst hn; exact E.via fun t k => XS.lrem P.here P.hx rfl (hb P.code hd) rfl hy k
theorem ineg (P : Pos p l e R s m args below meth c Z own nm bytes maxL ret n0 T h cells slots) {x : Int32} (hd : decode bytes pc = .ok (.ineg, 1)) (hn : n = pc + 1)
    (E : Ends p e below s R n0 Q T (mkF m n Ls (.int (-x) :: st))) : Ends p e below s R n0 Q T (mkF m pc Ls (.int x :: st)) := by
  subst hn; exact E.via fun t k => XS.ineg P.here P.hx rfl (hb P.code hd) rfl k
theorem lneg (P : Pos p l e R s m args below meth c Z own nm bytes maxL ret n0 T h cells slots) {x : Int64} (hd : decode bytes pc = .ok (.lneg, 1)) (hn : n = pc + 1)
    (E : Ends p e below s R n0 Q T (mkF m n Ls (.long (-x) :: st))) : Ends p e below s R n0 Q T (mkF m pc Ls (.long x :: st)) := by
  subst hn; exact E.via fun t k => XS.lneg P.here P.hx rfl (hb P.code hd) rfl k
theorem i2l (P : Pos p l e R s m args below meth c Z own nm bytes maxL ret n0 T h cells slots) {x : Int32} (hd : decode bytes pc = .ok (.i2l, 1)) (hn : n = pc + 1)
    (E : Ends p e below s R n0 Q T (mkF m n Ls (.long (x.toInt64) :: st))) : Ends p e below s R n0 Q T (mkF m pc Ls (.int x :: st)) := by
  subst hn; exact E.via fun t k => XS.i2l P.here P.hx rfl (hb P.code hd) rfl k
theorem l2i (P : Pos p l e R s m args below meth c Z own nm bytes maxL ret n0 T h cells slots) {x : Int64} (hd : decode bytes pc = .ok (.l2i, 1)) (hn : n = pc + 1)
    (E : Ends p e below s R n0 Q T (mkF m n Ls (.int (x.toInt32) :: st))) : Ends p e below s R n0 Q T (mkF m pc Ls (.long x :: st)) := by
  subst hn; exact E.via fun t k => XS.l2i P.here P.hx rfl (hb P.code hd) rfl k
theorem i2b (P : Pos p l e R s m args below meth c Z own nm bytes maxL ret n0 T h cells slots) {x : Int32} (hd : decode bytes pc = .ok (.i2b, 1)) (hn : n = pc + 1)
    (E : Ends p e below s R n0 Q T (mkF m n Ls (.int (x.toInt8.toInt32) :: st))) : Ends p e below s R n0 Q T (mkF m pc Ls (.int x :: st)) := by
  subst hn; exact E.via fun t k => XS.i2b P.here P.hx rfl (hb P.code hd) rfl k
theorem i2s (P : Pos p l e R s m args below meth c Z own nm bytes maxL ret n0 T h cells slots) {x : Int32} (hd : decode bytes pc = .ok (.i2s, 1)) (hn : n = pc + 1)
    (E : Ends p e below s R n0 Q T (mkF m n Ls (.int (x.toInt16.toInt32) :: st))) : Ends p e below s R n0 Q T (mkF m pc Ls (.int x :: st)) := by
  subst hn; exact E.via fun t k => XS.i2s P.here P.hx rfl (hb P.code hd) rfl k
theorem i2c (P : Pos p l e R s m args below meth c Z own nm bytes maxL ret n0 T h cells slots) {x : Int32} (hd : decode bytes pc = .ok (.i2c, 1)) (hn : n = pc + 1)
    (E : Ends p e below s R n0 Q T (mkF m n Ls (.int (x.toUInt32.toUInt16.toUInt32.toInt32) :: st))) : Ends p e below s R n0 Q T (mkF m pc Ls (.int x :: st)) := by
  subst hn; exact E.via fun t k => XS.i2c P.here P.hx rfl (hb P.code hd) rfl k
theorem lcmp (P : Pos p l e R s m args below meth c Z own nm bytes maxL ret n0 T h cells slots) {x y : Int64} (hd : decode bytes pc = .ok (.lcmp, 1)) (hn : n = pc + 1)
    (E : Ends p e below s R n0 Q T (mkF m n Ls (.int (lcmpW x y) :: st))) : Ends p e below s R n0 Q T (mkF m pc Ls (.long y :: .long x :: st)) := by
  subst hn; exact E.via fun t k => XS.lcmp P.here P.hx rfl (hb P.code hd) rfl k
theorem iinc (P : Pos p l e R s m args below meth c Z own nm bytes maxL ret n0 T h cells slots) {j : Nat} {cst : Int} {x : Int32} {l' : Array Slot} (hd : decode bytes pc = .ok (.iinc j cst, 3)) {y : Int32} (hl : Ls[j]? = some (.val (.int x))) (hy : y = Int32.ofInt cst) (hl' : storeLocals Ls j (.int (x + Int32.ofInt cst)) = some l') (hn : n = pc + 3)
    (E : Ends p e below s R n0 Q T (mkF m n l' st)) : Ends p e below s R n0 Q T (mkF m pc Ls st) := by
  subst hn; exact E.via fun t k => XS.iinc P.here P.hx rfl (hb P.code hd) hl hl' k
theorem dup (P : Pos p l e R s m args below meth c Z own nm bytes maxL ret n0 T h cells slots) {x : Value} (hd : decode bytes pc = .ok (.dup, 1)) (hc : x.category = 1) (hn : n = pc + 1)
    (E : Ends p e below s R n0 Q T (mkF m n Ls (x :: x :: st))) : Ends p e below s R n0 Q T (mkF m pc Ls (x :: st)) := by
  subst hn; exact E.via fun t k => XS.dup P.here P.hx rfl (hb P.code hd) rfl hc k
theorem dupX1 (P : Pos p l e R s m args below meth c Z own nm bytes maxL ret n0 T h cells slots) {x y : Value} (hd : decode bytes pc = .ok (.dup_x1, 1)) (hc : x.category = 1) (hc' : y.category = 1) (hn : n = pc + 1)
    (E : Ends p e below s R n0 Q T (mkF m n Ls (x :: y :: x :: st))) : Ends p e below s R n0 Q T (mkF m pc Ls (x :: y :: st)) := by
  subst hn; exact E.via fun t k => XS.dupX1 P.here P.hx rfl (hb P.code hd) rfl hc hc' k
theorem dupD (P : Pos p l e R s m args below meth c Z own nm bytes maxL ret n0 T h cells slots) {x y : Value} (hd : decode bytes pc = .ok (.dup2, 1)) (hc : x.category = 1) (hc' : y.category = 1) (hn : n = pc + 1)
    (E : Ends p e below s R n0 Q T (mkF m n Ls (x :: y :: x :: y :: st))) : Ends p e below s R n0 Q T (mkF m pc Ls (x :: y :: st)) := by
  subst hn; exact E.via fun t k => XT.dup2 P.here P.hx rfl (hb P.code hd) rfl hc hc' k
theorem popV (P : Pos p l e R s m args below meth c Z own nm bytes maxL ret n0 T h cells slots) {x : Value} (hd : decode bytes pc = .ok (.pop, 1)) (hc : x.category = 1) (hn : n = pc + 1)
    (E : Ends p e below s R n0 Q T (mkF m n Ls st)) : Ends p e below s R n0 Q T (mkF m pc Ls (x :: st)) := by
  subst hn; exact E.via fun t k => XS.pop P.here P.hx rfl (hb P.code hd) rfl hc k
theorem goto {o : Int} (P : Pos p l e R s m args below meth c Z own nm bytes maxL ret n0 T h cells slots) (hd : decode bytes pc = .ok (.goto o, 3)) (ho : 0 ≤ (pc : Int) + o ∧ ((pc : Int) + o).toNat = n) (E : Ends p e below s R n0 Q T (mkF m n Ls st)) : Ends p e below s R n0 Q T (mkF m pc Ls st) :=
  E.via fun t k => XS.goto P.here P.hx rfl (pc0 := pc) (pc' := n) rfl (hb P.code hd) ho.1 ho.2 k
theorem icmpB {cd : ClassFile.Cond} {o : Int} {x y : Int32} {n' : Nat} (P : Pos p l e R s m args below meth c Z own nm bytes maxL ret n0 T h cells slots) (hd : decode bytes pc = .ok (.if_icmp cd o, 3)) (ho : 0 ≤ (pc : Int) + o ∧ ((pc : Int) + o).toNat = n') (hn : n = pc + 3)
    (Et : if_icmp.holds cd x y = true → Ends p e below s R n0 Q T (mkF m n' Ls st)) (Ef : if_icmp.holds cd x y = false → Ends p e below s R n0 Q T (mkF m n Ls st)) : Ends p e below s R n0 Q T (mkF m pc Ls (.int y :: .int x :: st)) := by
  subst hn
  cases hq : if_icmp.holds cd x y with
  | true => exact (Et hq).via fun t k => XS.icmpYes P.here P.hx rfl (pc0 := pc) (pc' := n') rfl (hb P.code hd) rfl hq ho.1 ho.2 k
  | false => exact (Ef hq).via fun t k => XS.icmpNo P.here P.hx rfl (hb P.code hd) rfl hq k
theorem ifB {cd : ClassFile.Cond} {o : Int} {x : Int32} {n' : Nat} (P : Pos p l e R s m args below meth c Z own nm bytes maxL ret n0 T h cells slots) (hd : decode bytes pc = .ok (.ifCond cd o, 3)) (ho : 0 ≤ (pc : Int) + o ∧ ((pc : Int) + o).toNat = n') (hn : n = pc + 3)
    (Et : ifCond.holds cd x = true → Ends p e below s R n0 Q T (mkF m n' Ls st)) (Ef : ifCond.holds cd x = false → Ends p e below s R n0 Q T (mkF m n Ls st)) : Ends p e below s R n0 Q T (mkF m pc Ls (.int x :: st)) := by
  subst hn
  cases hq : ifCond.holds cd x with
  | true => exact (Et hq).via fun t k => XS.ifYes P.here P.hx rfl (pc0 := pc) (pc' := n') rfl (hb P.code hd) rfl hq ho.1 ho.2 k
  | false => exact (Ef hq).via fun t k => XS.ifNo P.here P.hx rfl (hb P.code hd) rfl hq k
theorem acmpB {cd : ACond} {o : Int} {x y : Value} {n' : Nat} (P : Pos p l e R s m args below meth c Z own nm bytes maxL ret n0 T h cells slots) (hd : decode bytes pc = .ok (.if_acmp cd o, 3)) (h1 : x.isRef = true) (h2 : y.isRef = true) (ho : 0 ≤ (pc : Int) + o ∧ ((pc : Int) + o).toNat = n') (hn : n = pc + 3)
    (Et : acV cd (decide (x = y)) = true → Ends p e below s R n0 Q T (mkF m n' Ls st)) (Ef : acV cd (decide (x = y)) = false → Ends p e below s R n0 Q T (mkF m n Ls st)) : Ends p e below s R n0 Q T (mkF m pc Ls (y :: x :: st)) := by
  subst hn
  obtain ⟨_, X, -⟩ := P.stand
  cases hq : acV cd (decide (x = y)) with
  | true => exact (Et hq).via fun t k => Jvm.RoadKit.acmp (g := mkF m pc Ls (y :: x :: st)) X P.hx rfl h1 h2 (pc0 := pc) (pc' := n') (same := decide (x = y)) rfl (hb P.code hd) rfl rfl ho.1 (by rw [hq]; simp [ho.2]) k
  | false => exact (Ef hq).via fun t k => Jvm.RoadKit.acmp (g := mkF m pc Ls (y :: x :: st)) X P.hx rfl h1 h2 (pc0 := pc) (pc' := pc + 3) (same := decide (x = y)) rfl (hb P.code hd) rfl rfl ho.1 (by rw [hq]; simp) k
/-! what the conditions say, in numbers -/
def cP (cd : ClassFile.Cond) (x y : Int) : Prop := match cd with | .eq => x = y | .ne => ¬ x = y | .lt => x < y | .ge => y ≤ x | .gt => y < x | .le => x ≤ y
theorem ii {cd : ClassFile.Cond} {x y : Int32} {b : Bool} (q : if_icmp.holds cd x y = b) : cP cd x.toInt y.toInt ↔ b = true := by
  subst q; cases cd <;> simp [cP, if_icmp.holds, Int32.lt_iff_toInt_lt, Int32.le_iff_toInt_le, Int32.toInt_inj]
theorem i0 {cd : ClassFile.Cond} {x : Int32} {b : Bool} (q : ifCond.holds cd x = b) : cP cd x.toInt 0 ↔ b = true := ii ((if0 cd x).symm.trans q)
theorem l0 {cd : ClassFile.Cond} {x y : Int64} {b : Bool} (q : ifCond.holds cd (lcmpW x y) = b) : cP cd x.toInt y.toInt ↔ b = true := by
  have h1 := i0 q
  obtain ⟨c1, c2, c3⟩ := c_lcmp x y
  rw [← h1]
  cases cd <;> simp only [cP] <;> (rcases Int.lt_trichotomy x.toInt y.toInt with g | g | g) <;> first | (have := c1 g; omega) | (have := c2 g; omega) | (have := c3 g; omega)
theorem icmp_eq {o : Int} {x y : Int32} {n' : Nat} (P : Pos p l e R s m args below meth c Z own nm bytes maxL ret n0 T h cells slots) (hd : decode bytes pc = .ok (.if_icmp .eq o, 3)) (ho : 0 ≤ (pc : Int) + o ∧ ((pc : Int) + o).toNat = n') (hn : n = pc + 3)
    (Et : x.toInt = y.toInt → Ends p e below s R n0 Q T (mkF m n' Ls st)) (Ef : ¬ x.toInt = y.toInt → Ends p e below s R n0 Q T (mkF m n Ls st)) : Ends p e below s R n0 Q T (mkF m pc Ls (.int y :: .int x :: st)) :=
  icmpB P hd ho hn (fun q => Et (by have := ii q; simp only [cP, iff_true] at this; exact this)) (fun q => Ef (by have := ii q; simp only [cP, Bool.false_eq_true, iff_false] at this; omega))
theorem if0_eq {o : Int} {x : Int32} {n' : Nat} (P : Pos p l e R s m args below meth c Z own nm bytes maxL ret n0 T h cells slots) (hd : decode bytes pc = .ok (.ifCond .eq o, 3)) (ho : 0 ≤ (pc : Int) + o ∧ ((pc : Int) + o).toNat = n') (hn : n = pc + 3)
    (Et : x.toInt = 0 → Ends p e below s R n0 Q T (mkF m n' Ls st)) (Ef : ¬ x.toInt = 0 → Ends p e below s R n0 Q T (mkF m n Ls st)) : Ends p e below s R n0 Q T (mkF m pc Ls (.int x :: st)) :=
  ifB P hd ho hn (fun q => Et (by have := i0 q; simp only [cP, iff_true] at this; exact this)) (fun q => Ef (by have := i0 q; simp only [cP, Bool.false_eq_true, iff_false] at this; omega))
theorem ifl_eq {o : Int} {x y : Int64} {n' : Nat} (P : Pos p l e R s m args below meth c Z own nm bytes maxL ret n0 T h cells slots) (hd : decode bytes pc = .ok (.ifCond .eq o, 3)) (ho : 0 ≤ (pc : Int) + o ∧ ((pc : Int) + o).toNat = n') (hn : n = pc + 3)
    (Et : x.toInt = y.toInt → Ends p e below s R n0 Q T (mkF m n' Ls st)) (Ef : ¬ x.toInt = y.toInt → Ends p e below s R n0 Q T (mkF m n Ls st)) : Ends p e below s R n0 Q T (mkF m pc Ls (.int (lcmpW x y) :: st)) :=
  ifB P hd ho hn (fun q => Et (by have := l0 q; simp only [cP, iff_true] at this; exact this)) (fun q => Ef (by have := l0 q; simp only [cP, Bool.false_eq_true, iff_false] at this; omega))
theorem icmp_ne {o : Int} {x y : Int32} {n' : Nat} (P : Pos p l e R s m args below meth c Z own nm bytes maxL ret n0 T h cells slots) (hd : decode bytes pc = .ok (.if_icmp .ne o, 3)) (ho : 0 ≤ (pc : Int) + o ∧ ((pc : Int) + o).toNat = n') (hn : n = pc + 3)
    (Et : ¬ x.toInt = y.toInt → Ends p e below s R n0 Q T (mkF m n' Ls st)) (Ef : x.toInt = y.toInt → Ends p e below s R n0 Q T (mkF m n Ls st)) : Ends p e below s R n0 Q T (mkF m pc Ls (.int y :: .int x :: st)) :=
  icmpB P hd ho hn (fun q => Et (by have := ii q; simp only [cP, iff_true] at this; exact this)) (fun q => Ef (by have := ii q; simp only [cP, Bool.false_eq_true, iff_false] at this; omega))
theorem if0_ne {o : Int} {x : Int32} {n' : Nat} (P : Pos p l e R s m args below meth c Z own nm bytes maxL ret n0 T h cells slots) (hd : decode bytes pc = .ok (.ifCond .ne o, 3)) (ho : 0 ≤ (pc : Int) + o ∧ ((pc : Int) + o).toNat = n') (hn : n = pc + 3)
    (Et : ¬ x.toInt = 0 → Ends p e below s R n0 Q T (mkF m n' Ls st)) (Ef : x.toInt = 0 → Ends p e below s R n0 Q T (mkF m n Ls st)) : Ends p e below s R n0 Q T (mkF m pc Ls (.int x :: st)) :=
  ifB P hd ho hn (fun q => Et (by have := i0 q; simp only [cP, iff_true] at this; exact this)) (fun q => Ef (by have := i0 q; simp only [cP, Bool.false_eq_true, iff_false] at this; omega))
theorem ifl_ne {o : Int} {x y : Int64} {n' : Nat} (P : Pos p l e R s m args below meth c Z own nm bytes maxL ret n0 T h cells slots) (hd : decode bytes pc = .ok (.ifCond .ne o, 3)) (ho : 0 ≤ (pc : Int) + o ∧ ((pc : Int) + o).toNat = n') (hn : n = pc + 3)
    (Et : ¬ x.toInt = y.toInt → Ends p e below s R n0 Q T (mkF m n' Ls st)) (Ef : x.toInt = y.toInt → Ends p e below s R n0 Q T (mkF m n Ls st)) : Ends p e below s R n0 Q T (mkF m pc Ls (.int (lcmpW x y) :: st)) :=
  ifB P hd ho hn (fun q => Et (by have := l0 q; simp only [cP, iff_true] at this; exact this)) (fun q => Ef (by have := l0 q; simp only [cP, Bool.false_eq_true, iff_false] at this; omega))
theorem icmp_lt {o : Int} {x y : Int32} {n' : Nat} (P : Pos p l e R s m args below meth c Z own nm bytes maxL ret n0 T h cells slots) (hd : decode bytes pc = .ok (.if_icmp .lt o, 3)) (ho : 0 ≤ (pc : Int) + o ∧ ((pc : Int) + o).toNat = n') (hn : n = pc + 3)
    (Et : x.toInt < y.toInt → Ends p e below s R n0 Q T (mkF m n' Ls st)) (Ef : y.toInt ≤ x.toInt → Ends p e below s R n0 Q T (mkF m n Ls st)) : Ends p e below s R n0 Q T (mkF m pc Ls (.int y :: .int x :: st)) :=
  icmpB P hd ho hn (fun q => Et (by have := ii q; simp only [cP, iff_true] at this; exact this)) (fun q => Ef (by have := ii q; simp only [cP, Bool.false_eq_true, iff_false] at this; omega))
theorem if0_lt {o : Int} {x : Int32} {n' : Nat} (P : Pos p l e R s m args below meth c Z own nm bytes maxL ret n0 T h cells slots) (hd : decode bytes pc = .ok (.ifCond .lt o, 3)) (ho : 0 ≤ (pc : Int) + o ∧ ((pc : Int) + o).toNat = n') (hn : n = pc + 3)
    (Et : x.toInt < 0 → Ends p e below s R n0 Q T (mkF m n' Ls st)) (Ef : 0 ≤ x.toInt → Ends p e below s R n0 Q T (mkF m n Ls st)) : Ends p e below s R n0 Q T (mkF m pc Ls (.int x :: st)) :=
  ifB P hd ho hn (fun q => Et (by have := i0 q; simp only [cP, iff_true] at this; exact this)) (fun q => Ef (by have := i0 q; simp only [cP, Bool.false_eq_true, iff_false] at this; omega))
theorem ifl_lt {o : Int} {x y : Int64} {n' : Nat} (P : Pos p l e R s m args below meth c Z own nm bytes maxL ret n0 T h cells slots) (hd : decode bytes pc = .ok (.ifCond .lt o, 3)) (ho : 0 ≤ (pc : Int) + o ∧ ((pc : Int) + o).toNat = n') (hn : n = pc + 3)
    (Et : x.toInt < y.toInt → Ends p e below s R n0 Q T (mkF m n' Ls st)) (Ef : y.toInt ≤ x.toInt → Ends p e below s R n0 Q T (mkF m n Ls st)) : Ends p e below s R n0 Q T (mkF m pc Ls (.int (lcmpW x y) :: st)) :=
  ifB P hd ho hn (fun q => Et (by have := l0 q; simp only [cP, iff_true] at this; exact this)) (fun q => Ef (by have := l0 q; simp only [cP, Bool.false_eq_true, iff_false] at this; omega))
theorem icmp_ge {o : Int} {x y : Int32} {n' : Nat} (P : Pos p l e R s m args below meth c Z own nm bytes maxL ret n0 T h cells slots) (hd : decode bytes pc = .ok (.if_icmp .ge o, 3)) (ho : 0 ≤ (pc : Int) + o ∧ ((pc : Int) + o).toNat = n') (hn : n = pc + 3)
    (Et : y.toInt ≤ x.toInt → Ends p e below s R n0 Q T (mkF m n' Ls st)) (Ef : x.toInt < y.toInt → Ends p e below s R n0 Q T (mkF m n Ls st)) : Ends p e below s R n0 Q T (mkF m pc Ls (.int y :: .int x :: st)) :=
  icmpB P hd ho hn (fun q => Et (by have := ii q; simp only [cP, iff_true] at this; exact this)) (fun q => Ef (by have := ii q; simp only [cP, Bool.false_eq_true, iff_false] at this; omega))
theorem if0_ge {o : Int} {x : Int32} {n' : Nat} (P : Pos p l e R s m args below meth c Z own nm bytes maxL ret n0 T h cells slots) (hd : decode bytes pc = .ok (.ifCond .ge o, 3)) (ho : 0 ≤ (pc : Int) + o ∧ ((pc : Int) + o).toNat = n') (hn : n = pc + 3)
    (Et : 0 ≤ x.toInt → Ends p e below s R n0 Q T (mkF m n' Ls st)) (Ef : x.toInt < 0 → Ends p e below s R n0 Q T (mkF m n Ls st)) : Ends p e below s R n0 Q T (mkF m pc Ls (.int x :: st)) :=
  ifB P hd ho hn (fun q => Et (by have := i0 q; simp only [cP, iff_true] at this; exact this)) (fun q => Ef (by have := i0 q; simp only [cP, Bool.false_eq_true, iff_false] at this; omega))
theorem ifl_ge {o : Int} {x y : Int64} {n' : Nat} (P : Pos p l e R s m args below meth c Z own nm bytes maxL ret n0 T h cells slots) (hd : decode bytes pc = .ok (.ifCond .ge o, 3)) (ho : 0 ≤ (pc : Int) + o ∧ ((pc : Int) + o).toNat = n') (hn : n = pc + 3)
    (Et : y.toInt ≤ x.toInt → Ends p e below s R n0 Q T (mkF m n' Ls st)) (Ef : x.toInt < y.toInt → Ends p e below s R n0 Q T (mkF m n Ls st)) : Ends p e below s R n0 Q T (mkF m pc Ls (.int (lcmpW x y) :: st)) :=
  ifB P hd ho hn (fun q => Et (by have := l0 q; simp only [cP, iff_true] at this; exact this)) (fun q => Ef (by have := l0 q; simp only [cP, Bool.false_eq_true, iff_false] at this; omega))
theorem icmp_gt {o : Int} {x y : Int32} {n' : Nat} (P : Pos p l e R s m args below meth c Z own nm bytes maxL ret n0 T h cells slots) (hd : decode bytes pc = .ok (.if_icmp .gt o, 3)) (ho : 0 ≤ (pc : Int) + o ∧ ((pc : Int) + o).toNat = n') (hn : n = pc + 3)
    (Et : y.toInt < x.toInt → Ends p e below s R n0 Q T (mkF m n' Ls st)) (Ef : x.toInt ≤ y.toInt → Ends p e below s R n0 Q T (mkF m n Ls st)) : Ends p e below s R n0 Q T (mkF m pc Ls (.int y :: .int x :: st)) :=
  icmpB P hd ho hn (fun q => Et (by have := ii q; simp only [cP, iff_true] at this; exact this)) (fun q => Ef (by have := ii q; simp only [cP, Bool.false_eq_true, iff_false] at this; omega))
theorem if0_gt {o : Int} {x : Int32} {n' : Nat} (P : Pos p l e R s m args below meth c Z own nm bytes maxL ret n0 T h cells slots) (hd : decode bytes pc = .ok (.ifCond .gt o, 3)) (ho : 0 ≤ (pc : Int) + o ∧ ((pc : Int) + o).toNat = n') (hn : n = pc + 3)
    (Et : 0 < x.toInt → Ends p e below s R n0 Q T (mkF m n' Ls st)) (Ef : x.toInt ≤ 0 → Ends p e below s R n0 Q T (mkF m n Ls st)) : Ends p e below s R n0 Q T (mkF m pc Ls (.int x :: st)) :=
  ifB P hd ho hn (fun q => Et (by have := i0 q; simp only [cP, iff_true] at this; exact this)) (fun q => Ef (by have := i0 q; simp only [cP, Bool.false_eq_true, iff_false] at this; omega))
theorem ifl_gt {o : Int} {x y : Int64} {n' : Nat} (P : Pos p l e R s m args below meth c Z own nm bytes maxL ret n0 T h cells slots) (hd : decode bytes pc = .ok (.ifCond .gt o, 3)) (ho : 0 ≤ (pc : Int) + o ∧ ((pc : Int) + o).toNat = n') (hn : n = pc + 3)
    (Et : y.toInt < x.toInt → Ends p e below s R n0 Q T (mkF m n' Ls st)) (Ef : x.toInt ≤ y.toInt → Ends p e below s R n0 Q T (mkF m n Ls st)) : Ends p e below s R n0 Q T (mkF m pc Ls (.int (lcmpW x y) :: st)) :=
  ifB P hd ho hn (fun q => Et (by have := l0 q; simp only [cP, iff_true] at this; exact this)) (fun q => Ef (by have := l0 q; simp only [cP, Bool.false_eq_true, iff_false] at this; omega))
theorem icmp_le {o : Int} {x y : Int32} {n' : Nat} (P : Pos p l e R s m args below meth c Z own nm bytes maxL ret n0 T h cells slots) (hd : decode bytes pc = .ok (.if_icmp .le o, 3)) (ho : 0 ≤ (pc : Int) + o ∧ ((pc : Int) + o).toNat = n') (hn : n = pc + 3)
    (Et : x.toInt ≤ y.toInt → Ends p e below s R n0 Q T (mkF m n' Ls st)) (Ef : y.toInt < x.toInt → Ends p e below s R n0 Q T (mkF m n Ls st)) : Ends p e below s R n0 Q T (mkF m pc Ls (.int y :: .int x :: st)) :=
  icmpB P hd ho hn (fun q => Et (by have := ii q; simp only [cP, iff_true] at this; exact this)) (fun q => Ef (by have := ii q; simp only [cP, Bool.false_eq_true, iff_false] at this; omega))
theorem if0_le {o : Int} {x : Int32} {n' : Nat} (P : Pos p l e R s m args below meth c Z own nm bytes maxL ret n0 T h cells slots) (hd : decode bytes pc = .ok (.ifCond .le o, 3)) (ho : 0 ≤ (pc : Int) + o ∧ ((pc : Int) + o).toNat = n') (hn : n = pc + 3)
    (Et : x.toInt ≤ 0 → Ends p e below s R n0 Q T (mkF m n' Ls st)) (Ef : 0 < x.toInt → Ends p e below s R n0 Q T (mkF m n Ls st)) : Ends p e below s R n0 Q T (mkF m pc Ls (.int x :: st)) :=
  ifB P hd ho hn (fun q => Et (by have := i0 q; simp only [cP, iff_true] at this; exact this)) (fun q => Ef (by have := i0 q; simp only [cP, Bool.false_eq_true, iff_false] at this; omega))
theorem ifl_le {o : Int} {x y : Int64} {n' : Nat} (P : Pos p l e R s m args below meth c Z own nm bytes maxL ret n0 T h cells slots) (hd : decode bytes pc = .ok (.ifCond .le o, 3)) (ho : 0 ≤ (pc : Int) + o ∧ ((pc : Int) + o).toNat = n') (hn : n = pc + 3)
    (Et : x.toInt ≤ y.toInt → Ends p e below s R n0 Q T (mkF m n' Ls st)) (Ef : y.toInt < x.toInt → Ends p e below s R n0 Q T (mkF m n Ls st)) : Ends p e below s R n0 Q T (mkF m pc Ls (.int (lcmpW x y) :: st)) :=
  ifB P hd ho hn (fun q => Et (by have := l0 q; simp only [cP, iff_true] at this; exact this)) (fun q => Ef (by have := l0 q; simp only [cP, Bool.false_eq_true, iff_false] at this; omega))
theorem aT {x y : Value} (q : acV .eq (decide (x = y)) = true) : x = y := by simpa [acV] using q
theorem aF {x y : Value} (q : acV .eq (decide (x = y)) = false) : ¬ x = y := by simpa [acV] using q
theorem nT {x y : Value} (q : acV .ne (decide (x = y)) = true) : ¬ x = y := by simpa [acV] using q
theorem nF {x y : Value} (q : acV .ne (decide (x = y)) = false) : x = y := by simpa [acV] using q
/-! constants, statics, fields, objects -/
theorem ldcI {index : Nat} {v : Int32} (P : Pos p l e R s m args below meth c Z own nm bytes maxL ret n0 T h cells slots) (hd : decode bytes pc = .ok (.ldc index, 2)) (w : (Cond.constant own index v).before a0 Z = true) (hn : n = pc + 2) (E : Ends p e below s R n0 Q T (mkF m n Ls (.int v :: st))) : Ends p e below s R n0 Q T (mkF m pc Ls st) := by
  subst hn; obtain ⟨_, X, -⟩ := P.stand
  exact E.via fun t k => X.ldcInt P.hx P.own' (mvT P.hZ w) (g := mkF m pc Ls st) rfl (hb P.code hd) t k
theorem ldc2J {index : Nat} {v : Int64} (P : Pos p l e R s m args below meth c Z own nm bytes maxL ret n0 T h cells slots) (hd : decode bytes pc = .ok (.ldc2_w index, 3)) (w : (Cond.constantLong own index v).before a0 Z = true) (hn : n = pc + 3) (E : Ends p e below s R n0 Q T (mkF m n Ls (.long v :: st))) : Ends p e below s R n0 Q T (mkF m pc Ls st) := by
  subst hn; obtain ⟨_, X, -⟩ := P.stand
  exact E.via fun t k => X.ldc2Long P.hx P.own' (mvT P.hZ w) (g := mkF m pc Ls st) rfl (hb P.code hd) t k
theorem getS {index : Nat} {O f d : String} {v : Value} (P : Pos p l e R s m args below meth c Z own nm bytes maxL ret n0 T h cells slots) (hd : decode bytes pc = .ok (.getstatic index, 3)) (w : (Cond.fieldLink own index O f d).before a0 Z = true) (F : Sta Z h O f d v) (hn : n = pc + 3)
    (E : ∀ T, Pos p l e R s m args below meth c Z own nm bytes maxL ret n0 T h cells slots → Ends p e below s R n0 Q T (mkF m n Ls (v :: st))) : Ends p e below s R n0 Q T (mkF m pc Ls st) := by
  subst hn; obtain ⟨_, X, N⟩ := P.stand
  obtain ⟨T', X', e', k⟩ := Jvm.RoadKit.getS (host := "") X P.hx P.hZ P.own' w Via.refl P.heap F (g := mkF m pc Ls st) rfl (hb P.code hd)
  exact (E T' (P.to X' N e')).via k
theorem getF {index : Nat} {O f d : String} {v : Value} {a : Addr} (P : Pos p l e R s m args below meth c Z own nm bytes maxL ret n0 T h cells slots) (hd : decode bytes pc = .ok (.getfield index, 3)) (w : (Cond.fieldLink own index O f d).before a0 Z = true) (F : Fld Z h a O f d v) (hn : n = pc + 3)
    (E : ∀ T, Pos p l e R s m args below meth c Z own nm bytes maxL ret n0 T h cells slots → Ends p e below s R n0 Q T (mkF m n Ls (v :: st))) : Ends p e below s R n0 Q T (mkF m pc Ls (.ref a :: st)) := by
  subst hn; obtain ⟨_, X, N⟩ := P.stand
  obtain ⟨T', X', e', k⟩ := Jvm.RoadKit.getF (host := "") X P.hx P.hZ P.own' (Or.inl w) Via.refl P.heap F (g := mkF m pc Ls (.ref a :: st)) rfl rfl (hb P.code hd)
  exact (E T' (P.to X' N e')).via k
theorem putF {index kk : Nat} {O f d C : String} {v old : Value} {a : Addr} {ty : FieldType} (P : Pos p l e R s m args below meth c Z own nm bytes maxL ret n0 T h cells slots) (hd : decode bytes pc = .ok (.putfield index, 3)) (w : (Cond.fieldLink own index O f d).before a0 Z = true) (F : Fld Z h a O f d old) (X0 : Exa Z h a C)
    (L : (Cond.lays C O f d).before a0 Z = true ∨ ((Cond.laysFinal C O f d).before a0 Z = true ∧ own = O ∧ nm = "<init>")) (wi : (Cond.instantiable C kk).before a0 Z = true) (hty : parseFieldDescriptor d = some ty) (hnw : narrow ty v = v) (hf : fits ty v = true) (ha : n0 ≤ a) (hn : n = pc + 3)
    (E : ∀ T h', Pos p l e R s m args below meth c Z own nm bytes maxL ret n0 T h' cells slots → Wr h h' a (Jvm.RoadKit.slotOf Z O f d) v → Ends p e below s R n0 Q T (mkF m n Ls st)) : Ends p e below s R n0 Q T (mkF m pc Ls (v :: .ref a :: st)) := by
  subst hn; obtain ⟨_, X, N⟩ := P.stand
  obtain ⟨T', h', X', e', W, k⟩ := Jvm.RoadKit.putF (host := "") X P.hx P.hZ P.own' (Or.inl w) Via.refl P.heap F X0 (L.imp id fun q => ⟨q.1, q.2.1, P.name.trans q.2.2⟩) wi hty hnw hf (g := mkF m pc Ls (v :: .ref a :: st)) rfl rfl (hb P.code hd)
  exact (E T' h' (P.to X' (Fr.snoc X' N ha) e') W).via k
theorem newO {index k : Nat} {C : String} (P : Pos p l e R s m args below meth c Z own nm bytes maxL ret n0 T h cells slots) (hd : decode bytes pc = .ok (.new index, 3)) (w : (Cond.classLink own index C).before a0 Z = true) (wi : (Cond.instantiable C k).before a0 Z = true) (wz : (Cond.initialized C).before a0 Z = true) (hc : cells + 1 ≤ R.cells) (hl : slots + k ≤ R.slots) (hn : n = pc + 3)
    (E : ∀ T h' a, Pos p l e R s m args below meth c Z own nm bytes maxL ret n0 T h' (cells + 1) (slots + k) → Ext h h' → a = h.size → n0 ≤ a → Exa Z h' a C → (∀ {O f d : String} {ty : FieldType}, Laid Z a0 C O f d → parseFieldDescriptor d = some ty → Fld Z h' a O f d (defaultValue ty)) → Ends p e below s R n0 Q T (mkF m n Ls (.ref a :: st))) : Ends p e below s R n0 Q T (mkF m pc Ls st) := by
  subst hn; obtain ⟨_, X, N⟩ := P.stand
  obtain ⟨T', h', X', e', Ex, A, D, -, kk⟩ := Jvm.RoadKit.newO X P.hx P.hZ P.own' w wi wz P.heap (g := mkF m pc Ls st) rfl (hb P.code hd) hc hl
  exact (E T' h' _ (P.to X' N e') Ex rfl P.low A D).via kk
theorem initO {index : Nat} {a : Addr} (P : Pos p l e R s m args below meth c Z own nm bytes maxL ret n0 T h cells slots) (hd : decode bytes pc = .ok (.invokespecial index, 3)) (w1 : (Cond.methodLink own index Lib.objectInit).before a0 Z = true) (w2 : (Cond.instanceMethod Lib.objectInit).before a0 Z = true) (w3 : (Cond.code Lib.objectInit ⟨#[0xb1]⟩ 1 none).before a0 Z = true) (hsz : Ls.size = maxL)
    (hf : 1 ≤ R.frames) (hl : (st.map fun v => v.category).sum + 12 ≤ R.locals) (hn : n = pc + 3) (E : ∀ T, Pos p l e R s m args below meth c Z own nm bytes maxL ret n0 T h cells slots → Ends p e below s R n0 Q T (mkF m n Ls st)) : Ends p e below s R n0 Q T (mkF m pc Ls (.ref a :: st)) := by
  subst hn; obtain ⟨_, X, N⟩ := P.stand
  obtain ⟨T', X', e', k⟩ := Jvm.RoadKit.initO X P.hx P.hZ P.own' w1 w2 w3 P.heap (g := mkF m pc Ls (.ref a :: st)) rfl (hsz.trans P.maxl.symm) rfl (hb P.code hd) hf (W := (st.map fun v => v.category).sum) (by show 2 * 0 + _ ≤ _; omega) hl
  exact (E T' (P.to X' N e')).via k
/-! arrays: a length and what each place holds -/
def AR (Z : State) (h : Heap) (a : Addr) (ty : FieldType) (k : Nat) (f : Nat → Value) : Prop := ∃ cl : Cell, Arr Z h a cl ty ∧ cl.slots.size = k ∧ k < 2 ^ 31 ∧ ∀ i, i < k → cl.slots[i]? = some (f i)
/-- one place changed -/
def ovr {α : Type} (g : Nat → α) (i : Nat) (x : α) : Nat → α := fun j => if j = i then x else g j
theorem ovr_at {α : Type} (g : Nat → α) (i : Nat) (x : α) : ovr g i x i = x := by simp [ovr]
theorem ovr_ne {α : Type} (g : Nat → α) {i j : Nat} (x : α) (q : j ≠ i) : ovr g i x j = g j := by simp [ovr, q]
abbrev ARI (Z : State) (h : Heap) (a : Addr) (ty : FieldType) (k : Nat) (g : Nat → Int32) : Prop := AR Z h a ty k (fun i => .int (g i))
abbrev ARJ (Z : State) (h : Heap) (a : Addr) (k : Nat) (g : Nat → Int64) : Prop := AR Z h a .long k (fun i => .long (g i))
variable {a b : Addr} {ty : FieldType} {k : Nat} {f : Nat → Value}
theorem AR.lt (A : AR Z h a ty k f) : a < h.size := by obtain ⟨_, B, -⟩ := A; exact B.lt
theorem AR.len (A : AR Z h a ty k f) : k < 2 ^ 31 := by obtain ⟨_, _, _, r, _⟩ := A; exact r
theorem AR.ext (A : AR Z h a ty k f) (E : Ext h h') : AR Z h' a ty k f := by obtain ⟨cl, B, r⟩ := A; exact ⟨cl, B.ext E, r⟩
theorem AR.other {sl : Nat} {v : Value} (A : AR Z h b ty k f) (W : Wr h h' a sl v) (q : b ≠ a) : AR Z h' b ty k f := by obtain ⟨cl, B, r⟩ := A; exact ⟨cl, B.other W q, r⟩
theorem AR.keep {ws : List Addr} (A : AR Z h a ty k f) (K : Keep h h' ws) (q : a ∉ ws) : AR Z h' a ty k f := by obtain ⟨cl, B, r⟩ := A; exact ⟨cl, ⟨K.2.1 a cl B.1 q, B.2⟩, r⟩
theorem AR.congr {g : Nat → Value} (A : AR Z h a ty k f) (q : ∀ i, i < k → f i = g i) : AR Z h a ty k g := by obtain ⟨cl, B, r1, r2, r3⟩ := A; exact ⟨cl, B, r1, r2, fun i hi => by rw [r3 i hi, q i hi]⟩
theorem AR.set {i : Nat} {v : Value} (A : AR Z h a ty k f) (W : Wr h h' a i v) : AR Z h' a ty k (ovr f i v) := by
  obtain ⟨cl, B, r1, r2, r3⟩ := A
  refine ⟨_, B.same W, by rw [sz_set]; exact r1, r2, fun j hj => ?_⟩
  by_cases u : j = i
  · subst u; simp [Cell.setSlot, r1, hj, ovr]
  · simp only [Cell.setSlot, ovr, if_neg u]
    rw [Array.getElem?_setIfInBounds_ne (Ne.symm u)]; exact r3 j hj
theorem ARI.set {g : Nat → Int32} {i : Nat} {x : Int32} (A : ARI Z h a ty k g) (W : Wr h h' a i (.int x)) : ARI Z h' a ty k (ovr g i x) := by
  refine (AR.set A W).congr fun j _ => ?_
  by_cases u : j = i <;> simp [ovr, u]
theorem ARJ.set {g : Nat → Int64} {i : Nat} {x : Int64} (A : ARJ Z h a k g) (W : Wr h h' a i (.long x)) : ARJ Z h' a k (ovr g i x) := by
  refine (AR.set A W).congr fun j _ => ?_
  by_cases u : j = i <;> simp [ovr, u]
theorem inA {j : Int32} {i : Nat} {cl : Cell} (q : j.toInt = i ∧ i < k) (e : cl.slots.size = k) : ¬ (j < 0 ∨ cl.slots.size ≤ j.toNatClampNeg) ∧ j.toNatClampNeg = i := by
  have e0 : (0 : Int32).toInt = 0 := rfl
  simp only [Int32.lt_iff_toInt_lt, Int32.toNatClampNeg, e, e0]; omega
theorem newP {aty : ArrayType} {x : Int32} {cap : Nat} (P : Pos p l e R s m args below meth c Z own nm bytes maxL ret n0 T h cells slots) (hd : decode bytes pc = .ok (.newarray aty, 2)) (w : (Cond.arrayClass (newarray.typeOf aty)).before a0 Z = true) (hx : x.toInt = k ∧ k ≤ cap) (hb' : cap * 8 ≤ 536870912) (hc : cells + 1 ≤ R.cells ∧ slots + cap ≤ R.slots) (hn : n = pc + 2)
    (E : ∀ T h' a, Pos p l e R s m args below meth c Z own nm bytes maxL ret n0 T h' (cells + 1) (slots + cap) → Ext h h' → a = h.size → n0 ≤ a → AR Z h' a (newarray.typeOf aty) k (fun _ => defaultValue (newarray.typeOf aty)) → Ends p e below s R n0 Q T (mkF m n Ls (.ref a :: st))) : Ends p e below s R n0 Q T (mkF m pc Ls (.int x :: st)) := by
  subst hn; obtain ⟨_, X, N⟩ := P.stand
  have e0 : (0 : Int32).toInt = 0 := rfl
  have q1 : ¬ x < 0 := by rw [Int32.lt_iff_toInt_lt, e0]; omega
  have q2 : x.toNatClampNeg = k := by simp only [Int32.toNatClampNeg]; omega
  obtain ⟨T', h', cA, X', e', Ex, A, kk⟩ := Jvm.RoadKit.newP X P.hx P.hZ w P.heap (g := mkF m pc Ls (.int x :: st)) rfl (hb P.code hd) rfl q1 (cap := cap) (by omega) hb' hc.1 hc.2
  refine (E T' h' _ (P.to X' N e') Ex rfl P.low ⟨_, A, (sz_new _ _ _).trans q2, by have := rng32 x; omega, fun i hi => ?_⟩).via kk
  rw [← q2] at hi
  simp [newA, hi]
theorem ldA {i : Instr} {j : Int32} {u : Nat} {v : Value} (P : Pos p l e R s m args below meth c Z own nm bytes maxL ret n0 T h cells slots) (hd : decode bytes pc = .ok (i, 1)) (A : AR Z h a ty k f) (hi : (i = .baload ∧ (ty = .byte ∨ ty = .boolean)) ∨ (i = .iaload ∧ ty = .int) ∨ (i = .laload ∧ ty = .long) ∨ (i = .caload ∧ ty = .char) ∨ (i = .aaload ∧ ty.isReference = true)) (hj : j.toInt = u ∧ u < k) (hv : v = f u) (hn : n = pc + 1)
    (E : Ends p e below s R n0 Q T (mkF m n Ls (v :: st))) : Ends p e below s R n0 Q T (mkF m pc Ls (.int j :: .ref a :: st)) := by
  subst hn hv; obtain ⟨_, X, N⟩ := P.stand
  obtain ⟨cl, B, r1, r2, r3⟩ := A
  obtain ⟨q1, q5⟩ := inA hj r1
  have q2 : cl.slots[j.toNatClampNeg]? = some (f u) := by rw [q5]; exact r3 _ hj.2
  have q3 : T.heap[a]? = some cl := by rw [P.heap]; exact B.1
  have q4 := State.isArrayOf_alike (T := s) P.hZ.alike B.2.1
  rcases hi with ⟨rfl, rfl | rfl⟩ | ⟨rfl, rfl⟩ | ⟨rfl, rfl⟩ | ⟨rfl, rfl⟩ | ⟨rfl, ht⟩
  · exact E.via fun t k => X.baloadBytes P.hx q3 q4 B.2.2 q1 q2 (g := mkF m pc Ls (.int j :: .ref a :: st)) rfl rfl (hb P.code hd) t k
  · exact E.via fun t k => X.baloadBooleans P.hx q3 q4 B.2.2 q1 q2 (g := mkF m pc Ls (.int j :: .ref a :: st)) rfl rfl (hb P.code hd) t k
  · exact E.via fun t k => X.iaload P.hx q3 q4 B.2.2 q1 q2 (g := mkF m pc Ls (.int j :: .ref a :: st)) rfl rfl (hb P.code hd) t k
  · exact E.via fun t k => X.laload P.hx q3 q4 B.2.2 q1 q2 (g := mkF m pc Ls (.int j :: .ref a :: st)) rfl rfl (hb P.code hd) t k
  · exact E.via fun t k => X.caload P.hx q3 q4 B.2.2 q1 q2 (g := mkF m pc Ls (.int j :: .ref a :: st)) rfl rfl (hb P.code hd) t k
  · exact E.via fun t k => X.aaload P.hx q3 q4 ht B.2.2 q1 q2 (g := mkF m pc Ls (.int j :: .ref a :: st)) rfl rfl (hb P.code hd) t k
theorem baloadI {j : Int32} {u : Nat} {g : Nat → Int32} (P : Pos p l e R s m args below meth c Z own nm bytes maxL ret n0 T h cells slots) (hd : decode bytes pc = .ok (.baload, 1)) (A : ARI Z h a .byte k g) (hj : j.toInt = u ∧ u < k) (hn : n = pc + 1) (E : Ends p e below s R n0 Q T (mkF m n Ls (.int (g u) :: st))) : Ends p e below s R n0 Q T (mkF m pc Ls (.int j :: .ref a :: st)) := ldA P hd A (Or.inl ⟨rfl, Or.inl rfl⟩) hj rfl hn E
theorem zaloadI {j : Int32} {u : Nat} {g : Nat → Int32} (P : Pos p l e R s m args below meth c Z own nm bytes maxL ret n0 T h cells slots) (hd : decode bytes pc = .ok (.baload, 1)) (A : ARI Z h a .boolean k g) (hj : j.toInt = u ∧ u < k) (hn : n = pc + 1) (E : Ends p e below s R n0 Q T (mkF m n Ls (.int (g u) :: st))) : Ends p e below s R n0 Q T (mkF m pc Ls (.int j :: .ref a :: st)) := ldA P hd A (Or.inl ⟨rfl, Or.inr rfl⟩) hj rfl hn E
theorem ialoadI {j : Int32} {u : Nat} {g : Nat → Int32} (P : Pos p l e R s m args below meth c Z own nm bytes maxL ret n0 T h cells slots) (hd : decode bytes pc = .ok (.iaload, 1)) (A : ARI Z h a .int k g) (hj : j.toInt = u ∧ u < k) (hn : n = pc + 1) (E : Ends p e below s R n0 Q T (mkF m n Ls (.int (g u) :: st))) : Ends p e below s R n0 Q T (mkF m pc Ls (.int j :: .ref a :: st)) := ldA P hd A (Or.inr (Or.inl ⟨rfl, rfl⟩)) hj rfl hn E
theorem laloadJ {j : Int32} {u : Nat} {g : Nat → Int64} (P : Pos p l e R s m args below meth c Z own nm bytes maxL ret n0 T h cells slots) (hd : decode bytes pc = .ok (.laload, 1)) (A : ARJ Z h a k g) (hj : j.toInt = u ∧ u < k) (hn : n = pc + 1) (E : Ends p e below s R n0 Q T (mkF m n Ls (.long (g u) :: st))) : Ends p e below s R n0 Q T (mkF m pc Ls (.int j :: .ref a :: st)) := ldA P hd A (Or.inr (Or.inr (Or.inl ⟨rfl, rfl⟩))) hj rfl hn E
theorem alen {x : Int32} (P : Pos p l e R s m args below meth c Z own nm bytes maxL ret n0 T h cells slots) (hd : decode bytes pc = .ok (.arraylength, 1)) (A : AR Z h a ty k f) (hx : x.toInt = k) (hn : n = pc + 1)
    (E : Ends p e below s R n0 Q T (mkF m n Ls (.int x :: st))) : Ends p e below s R n0 Q T (mkF m pc Ls (.ref a :: st)) := by
  subst hn; obtain ⟨_, X, N⟩ := P.stand
  obtain ⟨cl, B, r1, r2, r3⟩ := A
  have q4 := State.isArrayOf_alike (T := s) P.hZ.alike B.2.1
  have q5 : cl.slots.size.toInt32 = x := by rw [← Int32.toInt_inj, len_toInt (by omega), r1, hx]
  exact E.via fun t k => X.arraylength P.hx (by rw [P.heap]; exact B.1) q4 (g := mkF m pc Ls (.ref a :: st)) rfl rfl (hb P.code hd) t (by rw [q5]; exact k)
theorem stI {j : Int32} {u : Nat} {x : Int32} (P : Pos p l e R s m args below meth c Z own nm bytes maxL ret n0 T h cells slots) (hd : decode bytes pc = .ok (.iastore, 1)) (A : AR Z h a .int k f) (hj : j.toInt = u ∧ u < k) (ha : n0 ≤ a) (hn : n = pc + 1)
    (E : ∀ T h', Pos p l e R s m args below meth c Z own nm bytes maxL ret n0 T h' cells slots → Wr h h' a u (.int (x)) → Ends p e below s R n0 Q T (mkF m n Ls st)) : Ends p e below s R n0 Q T (mkF m pc Ls (.int x :: .int j :: .ref a :: st)) := by
  subst hn; obtain ⟨_, X, N⟩ := P.stand
  obtain ⟨cl, B, r1, r2, r3⟩ := A
  obtain ⟨q1, q5⟩ := inA hj r1
  obtain ⟨T', h', X', e', W, kk⟩ := Jvm.RoadKit.stI X P.hx P.hZ P.heap B q1 (g := mkF m pc Ls (.int x :: .int j :: .ref a :: st)) rfl rfl (hb P.code hd)
  rw [q5] at W X'
  refine (E T' h' (P.to X' (Fr.snoc X' N ha) e') ?_).via kk
  exact W
theorem stJ {j : Int32} {u : Nat} {x : Int64} (P : Pos p l e R s m args below meth c Z own nm bytes maxL ret n0 T h cells slots) (hd : decode bytes pc = .ok (.lastore, 1)) (A : AR Z h a .long k f) (hj : j.toInt = u ∧ u < k) (ha : n0 ≤ a) (hn : n = pc + 1)
    (E : ∀ T h', Pos p l e R s m args below meth c Z own nm bytes maxL ret n0 T h' cells slots → Wr h h' a u (.long (x)) → Ends p e below s R n0 Q T (mkF m n Ls st)) : Ends p e below s R n0 Q T (mkF m pc Ls (.long x :: .int j :: .ref a :: st)) := by
  subst hn; obtain ⟨_, X, N⟩ := P.stand
  obtain ⟨cl, B, r1, r2, r3⟩ := A
  obtain ⟨q1, q5⟩ := inA hj r1
  obtain ⟨T', h', X', e', W, kk⟩ := Jvm.RoadKit.stJ X P.hx P.hZ P.heap B q1 (g := mkF m pc Ls (.long x :: .int j :: .ref a :: st)) rfl rfl (hb P.code hd)
  rw [q5] at W X'
  refine (E T' h' (P.to X' (Fr.snoc X' N ha) e') ?_).via kk
  exact W
theorem stB {j : Int32} {u : Nat} {x : Int32} (P : Pos p l e R s m args below meth c Z own nm bytes maxL ret n0 T h cells slots) (hd : decode bytes pc = .ok (.bastore, 1)) (A : AR Z h a .byte k f) (hj : j.toInt = u ∧ u < k) (ha : n0 ≤ a) (hn : n = pc + 1)
    (E : ∀ T h', Pos p l e R s m args below meth c Z own nm bytes maxL ret n0 T h' cells slots → Wr h h' a u (.int (x.toInt8.toInt32)) → Ends p e below s R n0 Q T (mkF m n Ls st)) : Ends p e below s R n0 Q T (mkF m pc Ls (.int x :: .int j :: .ref a :: st)) := by
  subst hn; obtain ⟨_, X, N⟩ := P.stand
  obtain ⟨cl, B, r1, r2, r3⟩ := A
  obtain ⟨q1, q5⟩ := inA hj r1
  obtain ⟨T', h', X', e', W, kk⟩ := Jvm.RoadKit.stB X P.hx P.hZ P.heap B q1 (g := mkF m pc Ls (.int x :: .int j :: .ref a :: st)) rfl rfl (hb P.code hd)
  rw [q5] at W X'
  refine (E T' h' (P.to X' (Fr.snoc X' N ha) e') ?_).via kk
  exact W
theorem stZ {j : Int32} {u : Nat} {x : Int32} (P : Pos p l e R s m args below meth c Z own nm bytes maxL ret n0 T h cells slots) (hd : decode bytes pc = .ok (.bastore, 1)) (A : AR Z h a .boolean k f) (hj : j.toInt = u ∧ u < k) (ha : n0 ≤ a) (hz : x = 0 ∨ x = 1) (hn : n = pc + 1)
    (E : ∀ T h', Pos p l e R s m args below meth c Z own nm bytes maxL ret n0 T h' cells slots → Wr h h' a u (.int (x)) → Ends p e below s R n0 Q T (mkF m n Ls st)) : Ends p e below s R n0 Q T (mkF m pc Ls (.int x :: .int j :: .ref a :: st)) := by
  subst hn; obtain ⟨_, X, N⟩ := P.stand
  obtain ⟨cl, B, r1, r2, r3⟩ := A
  obtain ⟨q1, q5⟩ := inA hj r1
  obtain ⟨T', h', X', e', W, kk⟩ := Jvm.RoadKit.stZ X P.hx P.hZ P.heap B q1 (g := mkF m pc Ls (.int x :: .int j :: .ref a :: st)) rfl rfl (hb P.code hd)
  rw [q5] at W X'
  refine (E T' h' (P.to X' (Fr.snoc X' N ha) e') ?_).via kk
  rcases hz with rfl | rfl <;> exact W
theorem stC {j : Int32} {u : Nat} {x : Int32} (P : Pos p l e R s m args below meth c Z own nm bytes maxL ret n0 T h cells slots) (hd : decode bytes pc = .ok (.castore, 1)) (A : AR Z h a .char k f) (hj : j.toInt = u ∧ u < k) (ha : n0 ≤ a) (hn : n = pc + 1)
    (E : ∀ T h', Pos p l e R s m args below meth c Z own nm bytes maxL ret n0 T h' cells slots → Wr h h' a u (.int (nar .char x)) → Ends p e below s R n0 Q T (mkF m n Ls st)) : Ends p e below s R n0 Q T (mkF m pc Ls (.int x :: .int j :: .ref a :: st)) := by
  subst hn; obtain ⟨_, X, N⟩ := P.stand
  obtain ⟨cl, B, r1, r2, r3⟩ := A
  obtain ⟨q1, q5⟩ := inA hj r1
  obtain ⟨T', h', X', e', W, kk⟩ := Jvm.RoadKit.stC X P.hx P.hZ P.heap B q1 (g := mkF m pc Ls (.int x :: .int j :: .ref a :: st)) rfl rfl (hb P.code hd)
  rw [q5] at W X'
  exact (E T' h' (P.to X' (Fr.snoc X' N ha) e') W).via kk
/-- the library's form of an array -/
theorem AR.arv {vs : List Value} {dv : Value} {N : Int32} (A : AR Z h a ty k f) (hN : N.toInt = k) (hv : ∀ i, i < k → f i = vs.getD i dv) (hf : ∀ i, i < k → fits ty (vs.getD i dv) = true) : ∃ kC, Arv Z h a kC ty N vs dv := by
  obtain ⟨cl, B, r1, r2, r3⟩ := A
  have e0 : (0 : Int32).toInt = 0 := rfl
  refine ⟨cl.cls, cl, B, rfl, by rw [r1]; simp only [Int32.toNatClampNeg]; omega, by rw [Int32.lt_iff_toInt_lt, e0]; omega, fun i hi => ?_, fun i hi => hf i (r1 ▸ hi)⟩
  rw [r1] at hi; rw [r3 i hi, hv i hi]
/-! arrays of references -/
def ARC (Z : State) (h : Heap) (a : Addr) (C : String) (k : Nat) (f : Nat → Value) : Prop := ∃ cl : Cell, Arr Z h a cl (.object C) ∧ cl.slots.size = k ∧ k < 2 ^ 31 ∧ (∀ i, i < k → cl.slots[i]? = some (f i)) ∧ Ovr Z cl.cls C
theorem ARC.ar {C : String} (A : ARC Z h a C k f) : AR Z h a (.object C) k f := by obtain ⟨cl, B, r1, r2, r3, -⟩ := A; exact ⟨cl, B, r1, r2, r3⟩
theorem ARC.lt {C : String} (A : ARC Z h a C k f) : a < h.size := A.ar.lt
theorem ARC.ext {C : String} (A : ARC Z h a C k f) (E : Ext h h') : ARC Z h' a C k f := by obtain ⟨cl, B, r⟩ := A; exact ⟨cl, B.ext E, r⟩
theorem ARC.other {C : String} {sl : Nat} {v : Value} (A : ARC Z h b C k f) (W : Wr h h' a sl v) (q : b ≠ a) : ARC Z h' b C k f := by obtain ⟨cl, B, r⟩ := A; exact ⟨cl, B.other W q, r⟩
theorem ARC.set {C : String} {i : Nat} {v : Value} (A : ARC Z h a C k f) (W : Wr h h' a i v) : ARC Z h' a C k (ovr f i v) := by
  obtain ⟨cl, B, r1, r2, r3, r4⟩ := A
  refine ⟨_, B.same W, by rw [sz_set]; exact r1, r2, fun j hj => ?_, r4⟩
  by_cases u : j = i
  · subst u; simp [Cell.setSlot, r1, hj, ovr]
  · simp only [Cell.setSlot, ovr, if_neg u]
    rw [Array.getElem?_setIfInBounds_ne (Ne.symm u)]; exact r3 j hj
theorem newR {index : Nat} {C : String} {x : Int32} {cap : Nat} (P : Pos p l e R s m args below meth c Z own nm bytes maxL ret n0 T h cells slots) (hd : decode bytes pc = .ok (.anewarray index, 3)) (w1 : (Cond.classLink own index C).before a0 Z = true) (w2 : (Cond.arrayOver (.object C)).before a0 Z = true) (hx : x.toInt = k ∧ k ≤ cap) (hb' : cap * 8 ≤ 536870912) (hc : cells + 1 ≤ R.cells ∧ slots + cap ≤ R.slots) (hn : n = pc + 3)
    (E : ∀ T h' a, Pos p l e R s m args below meth c Z own nm bytes maxL ret n0 T h' (cells + 1) (slots + cap) → Ext h h' → a = h.size → n0 ≤ a → ARC Z h' a C k (fun _ => .null) → Ends p e below s R n0 Q T (mkF m n Ls (.ref a :: st))) : Ends p e below s R n0 Q T (mkF m pc Ls (.int x :: st)) := by
  subst hn; obtain ⟨_, X, N⟩ := P.stand
  have e0 : (0 : Int32).toInt = 0 := rfl
  have q1 : ¬ x < 0 := by rw [Int32.lt_iff_toInt_lt, e0]; omega
  have q2 : x.toNatClampNeg = k := by simp only [Int32.toNatClampNeg]; omega
  obtain ⟨T', h', cA, X', e', Ex, A, O, kk⟩ := Jvm.RoadKit.newR X P.hx P.hZ P.own' w1 w2 P.heap (g := mkF m pc Ls (.int x :: st)) rfl (hb P.code hd) rfl q1 (cap := cap) (by omega) hb' hc.1 hc.2
  refine (E T' h' _ (P.to X' N e') Ex rfl P.low ⟨_, A, (sz_new _ _ _).trans q2, by have := rng32 x; omega, fun i hi => ?_, O⟩).via kk
  rw [← q2] at hi
  simp [newA, hi, defaultValue]
theorem stR {C : String} {j : Int32} {u : Nat} {y : Addr} (P : Pos p l e R s m args below meth c Z own nm bytes maxL ret n0 T h cells slots) (hd : decode bytes pc = .ok (.aastore, 1)) (A : ARC Z h a C k f) (hj : j.toInt = u ∧ u < k) (I : Ins Z h y C true) (ha : n0 ≤ a) (hn : n = pc + 1)
    (E : ∀ T h', Pos p l e R s m args below meth c Z own nm bytes maxL ret n0 T h' cells slots → Wr h h' a u (.ref y) → Ends p e below s R n0 Q T (mkF m n Ls st)) : Ends p e below s R n0 Q T (mkF m pc Ls (.ref y :: .int j :: .ref a :: st)) := by
  subst hn; obtain ⟨_, X, N⟩ := P.stand
  obtain ⟨cl, B, r1, r2, r3, r4⟩ := A
  obtain ⟨q1, q5⟩ := inA hj r1
  obtain ⟨T', h', X', e', W, kk⟩ := Jvm.RoadKit.stR X P.hx P.hZ P.heap B q1 rfl (Sto.of B r4 I) (g := mkF m pc Ls (.ref y :: .int j :: .ref a :: st)) rfl rfl (hb P.code hd)
  rw [q5] at W X'
  exact (E T' h' (P.to X' (Fr.snoc X' N ha) e') W).via kk
/-- null into an array of references -/
theorem stN {j : Int32} {u : Nat} (P : Pos p l e R s m args below meth c Z own nm bytes maxL ret n0 T h cells slots) (hd : decode bytes pc = .ok (.aastore, 1)) (A : AR Z h a ty k f) (ht : ty.isReference = true) (hj : j.toInt = u ∧ u < k) (ha : n0 ≤ a) (hn : n = pc + 1)
    (E : ∀ T h', Pos p l e R s m args below meth c Z own nm bytes maxL ret n0 T h' cells slots → Wr h h' a u .null → Ends p e below s R n0 Q T (mkF m n Ls st)) : Ends p e below s R n0 Q T (mkF m pc Ls (.null :: .int j :: .ref a :: st)) := by
  subst hn; obtain ⟨_, X, N⟩ := P.stand
  obtain ⟨cl, B, r1, r2, r3⟩ := A
  obtain ⟨q1, q5⟩ := inA hj r1
  obtain ⟨T', h', X', e', W, kk⟩ := Jvm.RoadKit.stR X P.hx P.hZ P.heap B q1 ht (Or.inl rfl) (g := mkF m pc Ls (.null :: .int j :: .ref a :: st)) rfl rfl (hb P.code hd)
  rw [q5] at W X'
  exact (E T' h' (P.to X' (Fr.snoc X' N ha) e') W).via kk
theorem newRA {index : Nat} {C ad : String} {ty : FieldType} {x : Int32} {cap : Nat} (P : Pos p l e R s m args below meth c Z own nm bytes maxL ret n0 T h cells slots) (hd : decode bytes pc = .ok (.anewarray index, 3)) (hC : (FieldType.array ty).toString = C) (had : "[" ++ C = ad) (w1 : (Cond.classLink own index C).before a0 Z = true) (w2 : (Cond.arrayOver (.array ty)).before a0 Z = true) (hx : x.toInt = k ∧ k ≤ cap) (hb' : cap * 8 ≤ 536870912) (hc : cells + 1 ≤ R.cells ∧ slots + cap ≤ R.slots) (hn : n = pc + 3)
    (E : ∀ T h' a, Pos p l e R s m args below meth c Z own nm bytes maxL ret n0 T h' (cells + 1) (slots + cap) → Ext h h' → a = h.size → n0 ≤ a → AR Z h' a (.array ty) k (fun _ => .null) → Ends p e below s R n0 Q T (mkF m n Ls (.ref a :: st))) : Ends p e below s R n0 Q T (mkF m pc Ls (.int x :: st)) := by
  subst hn; obtain ⟨_, X, N⟩ := P.stand
  have e0 : (0 : Int32).toInt = 0 := rfl
  have q1 : ¬ x < 0 := by rw [Int32.lt_iff_toInt_lt, e0]; omega
  have q2 : x.toNatClampNeg = k := by simp only [Int32.toNatClampNeg]; omega
  obtain ⟨T', h', cA, X', e', Ex, A, -, -, kk⟩ := Jvm.RoadKit.newRA X P.hx P.hZ P.own' hC w1 w2 P.heap (g := mkF m pc Ls (.int x :: st)) rfl (hb P.code hd) rfl q1 (cap := cap) (by omega) hb' hc.1 hc.2 had
  refine (E T' h' _ (P.to X' N e') Ex rfl P.low ⟨_, A, (sz_new _ _ _).trans q2, by have := rng32 x; omega, fun i hi => ?_⟩).via kk
  rw [← q2] at hi
  simp [newA, hi, defaultValue]
theorem aaloadA {j : Int32} {u : Nat} {g : Nat → Addr} {C : String} (P : Pos p l e R s m args below meth c Z own nm bytes maxL ret n0 T h cells slots) (hd : decode bytes pc = .ok (.aaload, 1)) (A : AR Z h a (.object C) k (fun i => .ref (g i))) (hj : j.toInt = u ∧ u < k) (hn : n = pc + 1) (E : Ends p e below s R n0 Q T (mkF m n Ls (.ref (g u) :: st))) : Ends p e below s R n0 Q T (mkF m pc Ls (.int j :: .ref a :: st)) := ldA P hd A (Or.inr (Or.inr (Or.inr (Or.inr ⟨rfl, rfl⟩)))) hj rfl hn E
/-! from the sheet's words -/
theorem eq_v {t : Term} {k : Int32} {idx : List Nat} (h : (Cond.eq t (.int k)).value args s none s idx = some true) : t.eval args s none idx s = some (.int k) := by
  cases hv : t.eval args s none idx s with
  | none => simp [Cond.value, hv] at h
  | some v => cases v <;> simp_all [Cond.value, Term.eval]
theorem ord_v {t : Term} {C nn d : String} {k : Int32} (ht : t.eval args s none [] s = some (.ref a)) (h : (Cond.eq (.field t C nn d) (.int k)).value args s none s [] = some true) : Fld s s.heap a C nn d (.int k) :=
  Fld.start ((fld_at (o := none) (args := args) (first := s) (idx := []) ht).symm.trans (eq_v h))
theorem fref_v {t u : Term} {C nn d : String} (ht : t.eval args s none [] s = some (.ref a)) (hu : u.eval args s none [] s = some (.ref b)) (h : (Cond.eq (.field t C nn d) u).value args s none s [] = some true) : Fld s s.heap a C nn d (.ref b) := by
  refine Fld.start ((fld_at (o := none) (args := args) (first := s) (idx := []) ht).symm.trans ?_)
  cases hv : (Term.field t C nn d).eval args s none [] s with
  | none => simp [Cond.value, hv] at h
  | some v => cases v <;> simp_all [Cond.value]
theorem AR.start {t : Term} {z : Int32} (ev : t.eval args s none [] s = some (.ref a)) (hx : (Cond.arrayOf t ty).value args s none s [] = some true) (hl : (Cond.eq (.length t) (.int z)).value args s none s [] = some true) (hz : z.toInt = k)
    (he : ∀ i, i < k → (Term.elem t (.int (Int32.ofNat i))).eval args s none [] s = some (f i)) : AR s s.heap a ty k f := by
  obtain ⟨cl, A⟩ := Arr.start ev hx
  have hA : s.arrayAt? a = some cl := A.fin (Vm.Alike.refl _)
  have hl2 := eq_v hl
  have hl3 : cl.slots.size < 2 ^ 31 ∧ cl.slots.size.toInt32 = z := by simpa [Term.eval, ev, hA] using hl2
  have hsz : cl.slots.size = k := by
    have := len_toInt hl3.1; rw [hl3.2, hz] at this; omega
  refine ⟨cl, A, hsz, by omega, fun i hi => ?_⟩
  have e2 := (elem_in (he i hi) ev (Term.int_eval _) A.1).2
  have e3 : (Int32.ofNat i).toNatClampNeg = i := by
    simp only [Int32.toNatClampNeg, Int32.toInt_ofNat_small (show i < 2 ^ 31 by omega)]; omega
  rw [e3] at e2; exact e2
/-! System.arraycopy of ints -/
theorem Arv.ari {kC : ClassId} {N : Int32} {vs : List Value} {dv : Value} (V : Arv Z h a kC ty N vs dv) (hN : N.toInt = k) : AR Z h a ty k (fun i => vs.getD i dv) := by
  obtain ⟨cl, B, -, r1, r2, H, -⟩ := V
  have e : cl.slots.size = k := by rw [r1]; simp only [Int32.toNatClampNeg]; omega
  exact ⟨cl, B, e, by have := rng32 N; omega, fun i hi => H i (by omega)⟩
theorem acopy {index : Nat} {k' : Nat} {f' : Nat → Value} {sp dp nn : Int32} {S D N : Nat} (P : Pos p l e R s m args below meth c Z own nm bytes maxL ret n0 T h cells slots) (hd : decode bytes pc = .ok (.invokestatic index, 3))
    (w1 : (Cond.methodLink own index Jvm.Stand.acN).before a0 Z = true) (w2 : (Cond.native Jvm.Stand.acN).before a0 Z = true) (w3 : (Cond.static Jvm.Stand.acN).before a0 Z = true) (w4 : (Cond.initialized "java/lang/System").before a0 Z = true)
    (A : AR Z h a .int k f) (B : AR Z h b .int k' f') (fA : ∀ i, i < k → fits .int (f i) = true) (fB : ∀ i, i < k' → fits .int (f' i) = true) (hs : sp.toInt = S ∧ dp.toInt = D ∧ nn.toInt = N) (h4 : S + N ≤ k) (h5 : D + N ≤ k') (ge : n0 ≤ b) (hsz : Ls.size = maxL)
    (hr : 1 ≤ R.frames ∧ (st.map fun v => v.category).sum + (nativeFrameWords "java/lang/System" "arraycopy" 5 + 11) ≤ R.locals) (hn : n = pc + 3)
    (E : ∀ T h', Pos p l e R s m args below meth c Z own nm bytes maxL ret n0 T h' cells slots → Keep h h' [b] → AR Z h' b .int k' (fun i => if D ≤ i ∧ i < D + N then f (S + (i - D)) else f' i) → Ends p e below s R n0 Q T (mkF m n Ls st)) : Ends p e below s R n0 Q T (mkF m pc Ls (.int nn :: .int dp :: .ref b :: .int sp :: .ref a :: st)) := by
  subst hn; obtain ⟨locs, X, NF⟩ := P.stand
  have e0 : (0 : Int32).toInt = 0 := rfl
  have gd : ∀ (F : Nat → Value) (K i : Nat), i < K → ((List.range K).map F).getD i (.int 0) = F i := fun F K i hi => by simp [List.getD_eq_getElem?_getD, hi]
  have kA := A.len; have kB := B.len
  obtain ⟨kC, VA⟩ := AR.arv (vs := (List.range k).map f) (dv := .int 0) (N := Int32.ofNat k) A (Int32.toInt_ofNat_small kA) (fun i hi => (gd f k i hi).symm) (fun i hi => by rw [gd f k i hi]; exact fA i hi)
  obtain ⟨kD, VB⟩ := AR.arv (vs := (List.range k').map f') (dv := .int 0) (N := Int32.ofNat k') B (Int32.toInt_ofNat_small kB) (fun i hi => (gd f' k' i hi).symm) (fun i hi => by rw [gd f' k' i hi]; exact fB i hi)
  have c1 : sp.toNatClampNeg = S := by simp only [Int32.toNatClampNeg]; omega
  have c2 : dp.toNatClampNeg = D := by simp only [Int32.toNatClampNeg]; omega
  have c3 : nn.toNatClampNeg = N := by simp only [Int32.toNatClampNeg]; omega
  have c4 : (Int32.ofNat k).toNatClampNeg = k := by simp only [Int32.toNatClampNeg, Int32.toInt_ofNat_small kA]; omega
  have c5 : (Int32.ofNat k').toNatClampNeg = k' := by simp only [Int32.toNatClampNeg, Int32.toInt_ofNat_small kB]; omega
  obtain ⟨T', h', L, X', e', NL, K, V', kk⟩ := cpA X P.hx P.hZ P.own' w1 w2 w3 w4 P.heap VA VB (Or.inl ⟨rfl, rfl⟩) (by rw [Int32.lt_iff_toInt_lt, e0]; omega) (by rw [Int32.lt_iff_toInt_lt, e0]; omega) (by rw [Int32.lt_iff_toInt_lt, e0]; omega) (by omega) (by omega) rfl (by simp; omega) NF ge
    (g := mkF m pc Ls (.int nn :: .int dp :: .ref b :: .int sp :: .ref a :: st)) rfl (hsz.trans P.maxl.symm) rfl (hb P.code hd) hr.1 (W := (st.map fun v => v.category).sum) (by show 2 * 0 + _ ≤ _; omega) hr.2
  refine (E T' h' (P.to X' NL e') K ((Arv.ari V' (Int32.toInt_ofNat_small kB)).congr fun i hi => ?_)).via kk
  simp only [c1, c2, c3, List.getD_eq_getElem?_getD]
  by_cases q1 : i < D
  · rw [if_neg (by omega), List.append_assoc, List.getElem?_append_left (by simp; omega)]
    simp [q1, hi]
  · by_cases q2 : i < D + N
    · rw [if_pos (by omega), List.append_assoc, List.getElem?_append_right (by simp; omega), List.getElem?_append_left (by simp; omega)]
      have z1 : min D k' = D := by omega
      have z2 : i - D < N := by omega
      have z3 : S + (i - D) < k := by omega
      simp [z1, z2, z3]
    · rw [if_neg (by omega), List.getElem?_append_right (by simp; omega)]
      have z1 : min D k' = D := by omega
      have z4 : D + N + (i - (D + N)) = i := by omega
      simp [z1, z4, hi]

/-! arrays of doubles, clones, grids -/
abbrev ARD (Z : State) (h : Heap) (a : Addr) (k : Nat) (g : Nat → UInt64) : Prop := AR Z h a .double k (fun i => .double (g i))
theorem ARD.set {g : Nat → UInt64} {i : Nat} {x : UInt64} (A : ARD Z h a k g) (W : Wr h h' a i (.double x)) : ARD Z h' a k (ovr g i x) := by
  refine (AR.set A W).congr fun j _ => ?_
  by_cases u : j = i <;> simp [ovr, u]
theorem daloadD {j : Int32} {u : Nat} {g : Nat → UInt64} (P : Pos p l e R s m args below meth c Z own nm bytes maxL ret n0 T h cells slots) (hd : decode bytes pc = .ok (.daload, 1)) (A : ARD Z h a k g) (hj : j.toInt = u ∧ u < k) (hn : n = pc + 1)
    (E : Ends p e below s R n0 Q T (mkF m n Ls (.double (g u) :: st))) : Ends p e below s R n0 Q T (mkF m pc Ls (.int j :: .ref a :: st)) := by
  subst hn; obtain ⟨_, X, N⟩ := P.stand
  obtain ⟨cl, B, r1, r2, r3⟩ := A
  obtain ⟨q1, q5⟩ := inA hj r1
  have q2 : cl.slots[j.toNatClampNeg]? = some (.double (g u)) := by rw [q5]; exact r3 _ hj.2
  have q3 : T.heap[a]? = some cl := by rw [P.heap]; exact B.1
  have q4 := State.isArrayOf_alike (T := s) P.hZ.alike B.2.1
  exact E.via fun t k => X.daload P.hx q3 q4 B.2.2 q1 q2 (g := mkF m pc Ls (.int j :: .ref a :: st)) rfl rfl (hb P.code hd) t k
theorem stD {j : Int32} {u : Nat} {x : UInt64} (P : Pos p l e R s m args below meth c Z own nm bytes maxL ret n0 T h cells slots) (hd : decode bytes pc = .ok (.dastore, 1)) (A : AR Z h a .double k f) (hj : j.toInt = u ∧ u < k) (ha : n0 ≤ a) (hn : n = pc + 1)
    (E : ∀ T h', Pos p l e R s m args below meth c Z own nm bytes maxL ret n0 T h' cells slots → Wr h h' a u (.double x) → Ends p e below s R n0 Q T (mkF m n Ls st)) : Ends p e below s R n0 Q T (mkF m pc Ls (.double x :: .int j :: .ref a :: st)) := by
  subst hn; obtain ⟨_, X, N⟩ := P.stand
  obtain ⟨cl, B, r1, r2, r3⟩ := A
  obtain ⟨q1, q5⟩ := inA hj r1
  obtain ⟨T', h', X', e', W, kk⟩ := Jvm.RoadKit.stD X P.hx P.hZ P.heap B q1 (g := mkF m pc Ls (.double x :: .int j :: .ref a :: st)) rfl rfl (hb P.code hd)
  rw [q5] at W X'
  exact (E T' h' (P.to X' (Fr.snoc X' N ha) e') W).via kk
theorem newPE {aty : ArrayType} {x : Int32} {cap : Nat} {ad : String} (P : Pos p l e R s m args below meth c Z own nm bytes maxL ret n0 T h cells slots) (hd : decode bytes pc = .ok (.newarray aty, 2)) (w : (Cond.arrayClass (newarray.typeOf aty)).before a0 Z = true) (hx : x.toInt = k ∧ k ≤ cap) (hb' : cap * 8 ≤ 536870912) (hc : cells + 1 ≤ R.cells ∧ slots + cap ≤ R.slots) (had : "[" ++ (newarray.typeOf aty).toString = ad) (hn : n = pc + 2)
    (E : ∀ T h' a, Pos p l e R s m args below meth c Z own nm bytes maxL ret n0 T h' (cells + 1) (slots + cap) → Ext h h' → a = h.size → n0 ≤ a → AR Z h' a (newarray.typeOf aty) k (fun _ => defaultValue (newarray.typeOf aty)) → Exa Z h' a ad → Ends p e below s R n0 Q T (mkF m n Ls (.ref a :: st))) : Ends p e below s R n0 Q T (mkF m pc Ls (.int x :: st)) := by
  subst hn; obtain ⟨_, X, N⟩ := P.stand
  have e0 : (0 : Int32).toInt = 0 := rfl
  have q1 : ¬ x < 0 := by rw [Int32.lt_iff_toInt_lt, e0]; omega
  have q2 : x.toNatClampNeg = k := by simp only [Int32.toNatClampNeg]; omega
  obtain ⟨T', h', cA, X', e', Ex, A, E', kk⟩ := Jvm.RoadKit.newPE X P.hx P.hZ w P.heap (g := mkF m pc Ls (.int x :: st)) rfl (hb P.code hd) rfl q1 (cap := cap) (by omega) hb' hc.1 hc.2 had
  refine (E T' h' _ (P.to X' N e') Ex rfl P.low ⟨_, A, (sz_new _ _ _).trans q2, by have := rng32 x; omega, fun i hi => ?_⟩ E').via kk
  rw [← q2] at hi
  simp [newA, hi]
theorem cloneD {index cap : Nat} {ad : String} {g : Nat → UInt64} (P : Pos p l e R s m args below meth c Z own nm bytes maxL ret n0 T h cells slots) (hd : decode bytes pc = .ok (.invokevirtual index, 3))
    (w1 : (Cond.methodLink own index ⟨ad, "clone", "()Ljava/lang/Object;"⟩).before a0 Z = true) (w2 : (Cond.sameMethod ad "java/lang/Object" "clone" "()Ljava/lang/Object;").before a0 Z = true) (w3 : (Cond.native ⟨"java/lang/Object", "clone", "()Ljava/lang/Object;"⟩).before a0 Z = true)
    (w4 : (Cond.instanceMethod ⟨"java/lang/Object", "clone", "()Ljava/lang/Object;"⟩).before a0 Z = true) (w5 : (Cond.selects ad ⟨ad, "clone", "()Ljava/lang/Object;"⟩ ⟨"java/lang/Object", "clone", "()Ljava/lang/Object;"⟩).before a0 Z = true) (w6 : (Cond.castable ad "java/lang/Cloneable").before a0 Z = true)
    (A : ARD Z h a k g) (Ea : Exa Z h a ad) (hsz : Ls.size = maxL) (hf : 1 ≤ R.frames) (hl : (st.map fun v => v.category).sum + 14 ≤ R.locals) (hcap : k ≤ cap) (hc : cells + 1 ≤ R.cells ∧ slots + cap ≤ R.slots) (hn : n = pc + 3)
    (E : ∀ T h' b, Pos p l e R s m args below meth c Z own nm bytes maxL ret n0 T h' (cells + 1) (slots + cap) → Ext h h' → b = h.size → n0 ≤ b → ARD Z h' b k g → Exa Z h' b ad → Ends p e below s R n0 Q T (mkF m n Ls (.ref b :: st))) : Ends p e below s R n0 Q T (mkF m pc Ls (.ref a :: st)) := by
  subst hn; obtain ⟨_, X, N⟩ := P.stand
  obtain ⟨cl, B, r1, r2, r3⟩ := A
  have FC : FitC Z cl := fitC_of B fun i hi v hv => by rw [r3 i (by omega)] at hv; cases hv; rfl
  obtain ⟨T', h', X', e', Ex, A', E', kk⟩ := Jvm.RoadKit.cloneA X P.hx P.hZ P.own' w1 w2 w3 w4 w5 w6 P.heap B Ea FC (g := mkF m pc Ls (.ref a :: st)) rfl (hsz.trans P.maxl.symm) rfl (hb P.code hd) hf (W := (st.map fun v => v.category).sum) (by show 2 * 0 + _ ≤ _; omega) hl (cap := cap) (by omega) hc.1 hc.2
  exact (E T' h' _ (P.to X' N e') Ex rfl P.low ⟨_, A', r1, r2, r3⟩ E').via kk
theorem castX {index : Nat} {K : String} (P : Pos p l e R s m args below meth c Z own nm bytes maxL ret n0 T h cells slots) (hd : decode bytes pc = .ok (.checkcast index, 3)) (w : (Cond.classLink own index K).before a0 Z = true) (F : Ins Z h a K true) (hn : n = pc + 3)
    (E : ∀ T, Pos p l e R s m args below meth c Z own nm bytes maxL ret n0 T h cells slots → Ends p e below s R n0 Q T (mkF m n Ls (.ref a :: st))) : Ends p e below s R n0 Q T (mkF m pc Ls (.ref a :: st)) := by
  subst hn; obtain ⟨_, X, N⟩ := P.stand
  obtain ⟨T', X', e', kk⟩ := Jvm.RoadKit.castY X P.hx P.hZ P.own' w P.heap F (g := mkF m pc Ls (.ref a :: st)) rfl rfl (hb P.code hd)
  exact (E T' (P.to X' N e')).via kk
theorem gridX {index N cap : Nat} {C ad : String} {x y : Int32} (P : Pos p l e R s m args below meth c Z own nm bytes maxL ret n0 T h cells slots) (hd : decode bytes pc = .ok (.multianewarray index 2, 4)) (hC : (FieldType.array ty).toString = C) (had : "[" ++ C = ad)
    (w1 : (Cond.classLink own index ad).before a0 Z = true) (w2 : (Cond.arrayOver (.array ty)).before a0 Z = true) (w3 : (Cond.arrayClass ty).before a0 Z = true) (hN : x.toInt = N) (hy : y.toInt = cap) (hb' : cap * 8 ≤ 536870912 ∧ N ≤ 1000) (hf : fits ty (defaultValue ty) = true ∧ (defaultValue ty).isDefault = true) (hc : cells + (1 + N) ≤ R.cells ∧ slots + (N + N * cap) ≤ R.slots) (hn : n = pc + 4)
    (E : ∀ T h' a, Pos p l e R s m args below meth c Z own nm bytes maxL ret n0 T h' (cells + (1 + N)) (slots + (N + N * cap)) → Ext h h' → a = h.size → n0 ≤ a → Ends p e below s R n0 Q T (mkF m n Ls (.ref a :: st))) : Ends p e below s R n0 Q T (mkF m pc Ls (.int y :: .int x :: st)) := by
  subst hn; obtain ⟨_, X, NF⟩ := P.stand
  have e0 : (0 : Int32).toInt = 0 := rfl
  have q1 : ¬ x < 0 := by rw [Int32.lt_iff_toInt_lt, e0]; omega
  have q2 : x.toNatClampNeg = N := by simp only [Int32.toNatClampNeg]; omega
  have q3 : ¬ y < 0 := by rw [Int32.lt_iff_toInt_lt, e0]; omega
  have q4 : y.toNatClampNeg = cap := by simp only [Int32.toNatClampNeg]; omega
  obtain ⟨T', h', cA, comp, X', e', Ex, -, -, -, -, kk⟩ := Jvm.RoadKit.gridM X P.hx P.hZ P.own' hC had w1 w2 w3 P.heap (g := mkF m pc Ls (.int y :: .int x :: st)) rfl (hb P.code hd) rfl q1 q3 q2 rfl (cap := cap) (by omega) hb'.1 hb'.2 hf.1 hf.2 hc.1 hc.2
  exact (E T' h' _ (P.to X' NF e') Ex rfl P.low).via kk
theorem dloadN (P : Pos p l e R s m args below meth c Z own nm bytes maxL ret n0 T h cells slots) {j : Fin 4} {v : UInt64} (hd : decode bytes pc = .ok (.dload_n j, 1)) (hl : Ls[j.val]? = some (.val (.double v))) (hn : n = pc + 1)
    (E : Ends p e below s R n0 Q T (mkF m n Ls (.double v :: st))) : Ends p e below s R n0 Q T (mkF m pc Ls st) := by
  subst hn; exact E.via fun t k => XS.dloadN P.here P.hx rfl (hb P.code hd) hl k
theorem dload (P : Pos p l e R s m args below meth c Z own nm bytes maxL ret n0 T h cells slots) {j : Nat} {v : UInt64} (hd : decode bytes pc = .ok (.dload j, 2)) (hl : Ls[j]? = some (.val (.double v))) (hn : n = pc + 2)
    (E : Ends p e below s R n0 Q T (mkF m n Ls (.double v :: st))) : Ends p e below s R n0 Q T (mkF m pc Ls st) := by
  subst hn; exact E.via fun t k => XS.dload P.here P.hx rfl (hb P.code hd) hl k
theorem dstoreN (P : Pos p l e R s m args below meth c Z own nm bytes maxL ret n0 T h cells slots) {j : Fin 4} {v : UInt64} {l' : Array Slot} (hd : decode bytes pc = .ok (.dstore_n j, 1)) (hl : storeLocals Ls j.val (.double v) = some l') (hn : n = pc + 1)
    (E : Ends p e below s R n0 Q T (mkF m n l' st)) : Ends p e below s R n0 Q T (mkF m pc Ls (.double v :: st)) := by
  subst hn; exact E.via fun t k => XS.dstoreN P.here P.hx rfl (hb P.code hd) rfl hl k
theorem dstore (P : Pos p l e R s m args below meth c Z own nm bytes maxL ret n0 T h cells slots) {j : Nat} {v : UInt64} {l' : Array Slot} (hd : decode bytes pc = .ok (.dstore j, 2)) (hl : storeLocals Ls j (.double v) = some l') (hn : n = pc + 2)
    (E : Ends p e below s R n0 Q T (mkF m n l' st)) : Ends p e below s R n0 Q T (mkF m pc Ls (.double v :: st)) := by
  subst hn; exact E.via fun t k => XS.dstore P.here P.hx rfl (hb P.code hd) rfl hl k
theorem dconst0 (P : Pos p l e R s m args below meth c Z own nm bytes maxL ret n0 T h cells slots) (hd : decode bytes pc = .ok (.dconst 0, 1)) (hn : n = pc + 1)
    (E : Ends p e below s R n0 Q T (mkF m n Ls (.double 0 :: st))) : Ends p e below s R n0 Q T (mkF m pc Ls st) := by
  subst hn; exact E.via fun t k => XS.dconst0 P.here P.hx rfl (hb P.code hd) rfl k
theorem l2d (P : Pos p l e R s m args below meth c Z own nm bytes maxL ret n0 T h cells slots) {x : Int64} (hd : decode bytes pc = .ok (.l2d, 1)) (hn : n = pc + 1)
    (E : Ends p e below s R n0 Q T (mkF m n Ls (.double (FP.l2d x) :: st))) : Ends p e below s R n0 Q T (mkF m pc Ls (.long x :: st)) := by
  subst hn; exact E.via fun t k => XS.l2dS P.here P.hx rfl (hb P.code hd) rfl rfl k
theorem i2d (P : Pos p l e R s m args below meth c Z own nm bytes maxL ret n0 T h cells slots) {x : Int32} (hd : decode bytes pc = .ok (.i2d, 1)) (hn : n = pc + 1)
    (E : Ends p e below s R n0 Q T (mkF m n Ls (.double (FP.i2d x) :: st))) : Ends p e below s R n0 Q T (mkF m pc Ls (.int x :: st)) := by
  subst hn; exact E.via fun t k => XS.i2dS P.here P.hx rfl (hb P.code hd) rfl rfl k
theorem dadd (P : Pos p l e R s m args below meth c Z own nm bytes maxL ret n0 T h cells slots) {x y : UInt64} (hd : decode bytes pc = .ok (.dadd, 1)) (hv : Jvm.Free.Fl.NoNaN64 (FP.dadd x y)) (hn : n = pc + 1)
    (E : Ends p e below s R n0 Q T (mkF m n Ls (.double (FP.dadd x y) :: st))) : Ends p e below s R n0 Q T (mkF m pc Ls (.double y :: .double x :: st)) := by
  subst hn; exact E.via fun t k => XS.daddS P.here P.hx rfl (hb P.code hd) rfl hv rfl k
theorem dsub (P : Pos p l e R s m args below meth c Z own nm bytes maxL ret n0 T h cells slots) {x y : UInt64} (hd : decode bytes pc = .ok (.dsub, 1)) (hv : Jvm.Free.Fl.NoNaN64 (FP.dsub x y)) (hn : n = pc + 1)
    (E : Ends p e below s R n0 Q T (mkF m n Ls (.double (FP.dsub x y) :: st))) : Ends p e below s R n0 Q T (mkF m pc Ls (.double y :: .double x :: st)) := by
  subst hn; exact E.via fun t k => XS.dsubS P.here P.hx rfl (hb P.code hd) rfl hv rfl k
theorem dmul (P : Pos p l e R s m args below meth c Z own nm bytes maxL ret n0 T h cells slots) {x y : UInt64} (hd : decode bytes pc = .ok (.dmul, 1)) (hv : Jvm.Free.Fl.NoNaN64 (FP.dmul x y)) (hn : n = pc + 1)
    (E : Ends p e below s R n0 Q T (mkF m n Ls (.double (FP.dmul x y) :: st))) : Ends p e below s R n0 Q T (mkF m pc Ls (.double y :: .double x :: st)) := by
  subst hn; exact E.via fun t k => XS.dmulS P.here P.hx rfl (hb P.code hd) rfl hv rfl k
theorem ddiv (P : Pos p l e R s m args below meth c Z own nm bytes maxL ret n0 T h cells slots) {x y : UInt64} (hd : decode bytes pc = .ok (.ddiv, 1)) (hv : Jvm.Free.Fl.NoNaN64 (FP.ddiv x y)) (hn : n = pc + 1)
    (E : Ends p e below s R n0 Q T (mkF m n Ls (.double (FP.ddiv x y) :: st))) : Ends p e below s R n0 Q T (mkF m pc Ls (.double y :: .double x :: st)) := by
  subst hn; exact E.via fun t k => XS.ddivS P.here P.hx rfl (hb P.code hd) rfl hv rfl k
theorem dcmp (P : Pos p l e R s m args below meth c Z own nm bytes maxL ret n0 T h cells slots) {o : CmpOp} {x y : UInt64} {v : Int32} (hd : decode bytes pc = .ok (.dcmp o, 1)) (hv : cmpValue (FP.dcmp x y) o = v) (hn : n = pc + 1)
    (E : Ends p e below s R n0 Q T (mkF m n Ls (.int v :: st))) : Ends p e below s R n0 Q T (mkF m pc Ls (.double y :: .double x :: st)) := by
  subst hn; exact E.via fun t k => XS.dcmpS P.here P.hx rfl (hb P.code hd) rfl hv k
theorem ldc2D {index : Nat} {v : UInt64} (P : Pos p l e R s m args below meth c Z own nm bytes maxL ret n0 T h cells slots) (hd : decode bytes pc = .ok (.ldc2_w index, 3)) (w : (Cond.constantDouble own index v).before a0 Z = true) (hn : n = pc + 3) (E : Ends p e below s R n0 Q T (mkF m n Ls (.double v :: st))) : Ends p e below s R n0 Q T (mkF m pc Ls st) := by
  subst hn; obtain ⟨_, X, -⟩ := P.stand
  exact E.via fun t k => X.ldc2DoubleC P.hx P.own' (mvT P.hZ w) (g := mkF m pc Ls st) rfl (hb P.code hd) t k
theorem retD {x : UInt64} (P : Pos p l e R s m args below meth c Z own nm bytes maxL (some .double) n0 T h cells slots) (hd : decode bytes pc = .ok (.dreturn, 1)) (hc : cells ≤ R.cells) (hs : slots ≤ R.slots) (q : Q (some (.double x)) h) : Ends p e below s R n0 Q T (mkF m pc Ls (.double x :: st)) :=
  retA P hd rfl (Or.inr (Or.inr (Or.inl ⟨rfl, rfl, _, rfl⟩))) hc hs q

/-! arrays of arrays that can be written; grids with their rows; clones of ints; steps with a literal result -/
def ARA (Z : State) (h : Heap) (a : Addr) (ty : FieldType) (C : String) (k : Nat) (f : Nat → Value) : Prop := ∃ cl : Cell, Arr Z h a cl (.array ty) ∧ cl.slots.size = k ∧ k < 2 ^ 31 ∧ (∀ i, i < k → cl.slots[i]? = some (f i)) ∧ OvrA Z cl.cls ty C
theorem ARA.ar {C : String} (A : ARA Z h a ty C k f) : AR Z h a (.array ty) k f := by obtain ⟨cl, B, r1, r2, r3, -⟩ := A; exact ⟨cl, B, r1, r2, r3⟩
theorem ARA.ext {C : String} (A : ARA Z h a ty C k f) (E : Ext h h') : ARA Z h' a ty C k f := by obtain ⟨cl, B, r⟩ := A; exact ⟨cl, B.ext E, r⟩
theorem ARA.other {C : String} {sl : Nat} {v : Value} (A : ARA Z h b ty C k f) (W : Wr h h' a sl v) (q : b ≠ a) : ARA Z h' b ty C k f := by obtain ⟨cl, B, r⟩ := A; exact ⟨cl, B.other W q, r⟩
theorem ARA.keep {C : String} {ws : List Addr} (A : ARA Z h a ty C k f) (K : Keep h h' ws) (q : a ∉ ws) : ARA Z h' a ty C k f := by obtain ⟨cl, B, r⟩ := A; exact ⟨cl, ⟨K.2.1 a cl B.1 q, B.2⟩, r⟩
theorem ARA.congr {C : String} {g : Nat → Value} (A : ARA Z h a ty C k f) (q : ∀ i, i < k → f i = g i) : ARA Z h a ty C k g := by obtain ⟨cl, B, r1, r2, r3, r4⟩ := A; exact ⟨cl, B, r1, r2, fun i hi => by rw [r3 i hi, q i hi], r4⟩
theorem ARA.set {C : String} {i : Nat} {v : Value} (A : ARA Z h a ty C k f) (W : Wr h h' a i v) : ARA Z h' a ty C k (ovr f i v) := by
  obtain ⟨cl, B, r1, r2, r3, r4⟩ := A
  refine ⟨_, B.same W, by rw [sz_set]; exact r1, r2, fun j hj => ?_, r4⟩
  by_cases u : j = i
  · subst u; simp [Cell.setSlot, r1, hj, ovr]
  · simp only [Cell.setSlot, ovr, if_neg u]
    rw [Array.getElem?_setIfInBounds_ne (Ne.symm u)]; exact r3 j hj
theorem newRAX {index : Nat} {C ad : String} {x : Int32} {cap : Nat} (P : Pos p l e R s m args below meth c Z own nm bytes maxL ret n0 T h cells slots) (hd : decode bytes pc = .ok (.anewarray index, 3)) (hC : (FieldType.array ty).toString = C) (had : "[" ++ C = ad) (w1 : (Cond.classLink own index C).before a0 Z = true) (w2 : (Cond.arrayOver (.array ty)).before a0 Z = true) (hx : x.toInt = k ∧ k ≤ cap) (hb' : cap * 8 ≤ 536870912) (hc : cells + 1 ≤ R.cells ∧ slots + cap ≤ R.slots) (hn : n = pc + 3)
    (E : ∀ T h' a, Pos p l e R s m args below meth c Z own nm bytes maxL ret n0 T h' (cells + 1) (slots + cap) → Ext h h' → a = h.size → n0 ≤ a → ARA Z h' a ty C k (fun _ => .null) → Ends p e below s R n0 Q T (mkF m n Ls (.ref a :: st))) : Ends p e below s R n0 Q T (mkF m pc Ls (.int x :: st)) := by
  subst hn; obtain ⟨_, X, N⟩ := P.stand
  have e0 : (0 : Int32).toInt = 0 := rfl
  have q1 : ¬ x < 0 := by rw [Int32.lt_iff_toInt_lt, e0]; omega
  have q2 : x.toNatClampNeg = k := by simp only [Int32.toNatClampNeg]; omega
  obtain ⟨T', h', cA, X', e', Ex, A, -, O, kk⟩ := Jvm.RoadKit.newRA X P.hx P.hZ P.own' hC w1 w2 P.heap (g := mkF m pc Ls (.int x :: st)) rfl (hb P.code hd) rfl q1 (cap := cap) (by omega) hb' hc.1 hc.2 had
  refine (E T' h' _ (P.to X' N e') Ex rfl P.low ⟨_, A, (sz_new _ _ _).trans q2, by have := rng32 x; omega, fun i hi => ?_, O⟩).via kk
  rw [← q2] at hi
  simp [newA, hi, defaultValue]
theorem stRA {C : String} {j : Int32} {u : Nat} {y : Addr} (P : Pos p l e R s m args below meth c Z own nm bytes maxL ret n0 T h cells slots) (hd : decode bytes pc = .ok (.aastore, 1)) (A : ARA Z h a ty C k f) (hj : j.toInt = u ∧ u < k) (I : Ins Z h y C true) (ha : n0 ≤ a) (hn : n = pc + 1)
    (E : ∀ T h', Pos p l e R s m args below meth c Z own nm bytes maxL ret n0 T h' cells slots → Wr h h' a u (.ref y) → Ends p e below s R n0 Q T (mkF m n Ls st)) : Ends p e below s R n0 Q T (mkF m pc Ls (.ref y :: .int j :: .ref a :: st)) := by
  subst hn; obtain ⟨_, X, N⟩ := P.stand
  obtain ⟨cl, B, r1, r2, r3, r4⟩ := A
  obtain ⟨q1, q5⟩ := inA hj r1
  obtain ⟨T', h', X', e', W, kk⟩ := Jvm.RoadKit.stR X P.hx P.hZ P.heap B q1 rfl (Sto.ofVA B rfl r4 I) (g := mkF m pc Ls (.ref y :: .int j :: .ref a :: st)) rfl rfl (hb P.code hd)
  rw [q5] at W X'
  exact (E T' h' (P.to X' (Fr.snoc X' N ha) e') W).via kk
theorem aaloadX {j : Int32} {u : Nat} {x : Addr} (P : Pos p l e R s m args below meth c Z own nm bytes maxL ret n0 T h cells slots) (hd : decode bytes pc = .ok (.aaload, 1)) (A : AR Z h a (.array ty) k f) (hj : j.toInt = u ∧ u < k) (hv : f u = .ref x) (hn : n = pc + 1) (E : Ends p e below s R n0 Q T (mkF m n Ls (.ref x :: st))) : Ends p e below s R n0 Q T (mkF m pc Ls (.int j :: .ref a :: st)) := ldA P hd A (Or.inr (Or.inr (Or.inr (Or.inr ⟨rfl, rfl⟩)))) hj hv.symm hn E
theorem gridY {index N cap : Nat} {C ad : String} {x y : Int32} (P : Pos p l e R s m args below meth c Z own nm bytes maxL ret n0 T h cells slots) (hd : decode bytes pc = .ok (.multianewarray index 2, 4)) (hC : (FieldType.array ty).toString = C) (had : "[" ++ C = ad)
    (w1 : (Cond.classLink own index ad).before a0 Z = true) (w2 : (Cond.arrayOver (.array ty)).before a0 Z = true) (w3 : (Cond.arrayClass ty).before a0 Z = true) (hN : x.toInt = N) (hy : y.toInt = cap) (hb' : cap * 8 ≤ 536870912 ∧ N ≤ 1000) (hf : fits ty (defaultValue ty) = true ∧ (defaultValue ty).isDefault = true) (hc : cells + (1 + N) ≤ R.cells ∧ slots + (N + N * cap) ≤ R.slots) (hn : n = pc + 4)
    (E : ∀ T h' a, Pos p l e R s m args below meth c Z own nm bytes maxL ret n0 T h' (cells + (1 + N)) (slots + (N + N * cap)) → Ext h h' → a = h.size → n0 ≤ a → AR Z h' a (.array ty) N (fun j => .ref (a + 1 + j)) → (∀ j, j < N → AR Z h' (a + 1 + j) ty cap (fun _ => defaultValue ty)) → Ends p e below s R n0 Q T (mkF m n Ls (.ref a :: st))) : Ends p e below s R n0 Q T (mkF m pc Ls (.int y :: .int x :: st)) := by
  subst hn; obtain ⟨_, X, NF⟩ := P.stand
  have e0 : (0 : Int32).toInt = 0 := rfl
  have q1 : ¬ x < 0 := by rw [Int32.lt_iff_toInt_lt, e0]; omega
  have q2 : x.toNatClampNeg = N := by simp only [Int32.toNatClampNeg]; omega
  have q3 : ¬ y < 0 := by rw [Int32.lt_iff_toInt_lt, e0]; omega
  have q4 : y.toNatClampNeg = cap := by simp only [Int32.toNatClampNeg]; omega
  obtain ⟨T', h', cA, comp, X', e', Ex, ⟨cl, B, -, r1, -, r2, -⟩, -, -, I, kk⟩ := Jvm.RoadKit.gridM X P.hx P.hZ P.own' hC had w1 w2 w3 P.heap (g := mkF m pc Ls (.int y :: .int x :: st)) rfl (hb P.code hd) rfl q1 q3 q2 rfl (cap := cap) (by omega) hb'.1 hb'.2 hf.1 hf.2 hc.1 hc.2
  rw [q2] at r1
  refine (E T' h' _ (P.to X' NF e') Ex rfl P.low ⟨cl, B, r1, by omega, fun i hi => ?_⟩ (fun j hj => ?_)).via kk
  · have := r2 i (by omega)
    rw [this]; simp [hi, List.getD_eq_getElem?_getD]
  · obtain ⟨A, -⟩ := I j (h.size + 1 + j) (by simp [hj])
    refine ⟨_, A, (sz_new _ _ _).trans q4, by have := rng32 y; omega, fun i hi => ?_⟩
    rw [← q4] at hi
    simp [newA, hi]
theorem cloneI {index cap : Nat} {ad : String} {g : Nat → Int32} (P : Pos p l e R s m args below meth c Z own nm bytes maxL ret n0 T h cells slots) (hd : decode bytes pc = .ok (.invokevirtual index, 3))
    (w1 : (Cond.methodLink own index ⟨ad, "clone", "()Ljava/lang/Object;"⟩).before a0 Z = true) (w2 : (Cond.sameMethod ad "java/lang/Object" "clone" "()Ljava/lang/Object;").before a0 Z = true) (w3 : (Cond.native ⟨"java/lang/Object", "clone", "()Ljava/lang/Object;"⟩).before a0 Z = true)
    (w4 : (Cond.instanceMethod ⟨"java/lang/Object", "clone", "()Ljava/lang/Object;"⟩).before a0 Z = true) (w5 : (Cond.selects ad ⟨ad, "clone", "()Ljava/lang/Object;"⟩ ⟨"java/lang/Object", "clone", "()Ljava/lang/Object;"⟩).before a0 Z = true) (w6 : (Cond.castable ad "java/lang/Cloneable").before a0 Z = true)
    (A : ARI Z h a .int k g) (Ea : Exa Z h a ad) (hsz : Ls.size = maxL) (hf : 1 ≤ R.frames) (hl : (st.map fun v => v.category).sum + 14 ≤ R.locals) (hcap : k ≤ cap) (hc : cells + 1 ≤ R.cells ∧ slots + cap ≤ R.slots) (hn : n = pc + 3)
    (E : ∀ T h' b, Pos p l e R s m args below meth c Z own nm bytes maxL ret n0 T h' (cells + 1) (slots + cap) → Ext h h' → b = h.size → n0 ≤ b → ARI Z h' b .int k g → Exa Z h' b ad → Ends p e below s R n0 Q T (mkF m n Ls (.ref b :: st))) : Ends p e below s R n0 Q T (mkF m pc Ls (.ref a :: st)) := by
  subst hn; obtain ⟨_, X, N⟩ := P.stand
  obtain ⟨cl, B, r1, r2, r3⟩ := A
  have FC : FitC Z cl := fitC_of B fun i hi v hv => by rw [r3 i (by omega)] at hv; cases hv; rfl
  obtain ⟨T', h', X', e', Ex, A', E', kk⟩ := Jvm.RoadKit.cloneA X P.hx P.hZ P.own' w1 w2 w3 w4 w5 w6 P.heap B Ea FC (g := mkF m pc Ls (.ref a :: st)) rfl (hsz.trans P.maxl.symm) rfl (hb P.code hd) hf (W := (st.map fun v => v.category).sum) (by show 2 * 0 + _ ≤ _; omega) hl (cap := cap) (by omega) hc.1 hc.2
  exact (E T' h' _ (P.to X' N e') Ex rfl P.low ⟨_, A', r1, r2, r3⟩ E').via kk
theorem iaddL (P : Pos p l e R s m args below meth c Z own nm bytes maxL ret n0 T h cells slots) {x y z : Int32} (hd : decode bytes pc = .ok (.iadd, 1)) (hz : x + y = z) (hn : n = pc + 1) (E : Ends p e below s R n0 Q T (mkF m n Ls (.int z :: st))) : Ends p e below s R n0 Q T (mkF m pc Ls (.int y :: .int x :: st)) := by subst hz; exact iadd P hd hn E
theorem isubL (P : Pos p l e R s m args below meth c Z own nm bytes maxL ret n0 T h cells slots) {x y z : Int32} (hd : decode bytes pc = .ok (.isub, 1)) (hz : x - y = z) (hn : n = pc + 1) (E : Ends p e below s R n0 Q T (mkF m n Ls (.int z :: st))) : Ends p e below s R n0 Q T (mkF m pc Ls (.int y :: .int x :: st)) := by subst hz; exact isub P hd hn E
theorem imulL (P : Pos p l e R s m args below meth c Z own nm bytes maxL ret n0 T h cells slots) {x y z : Int32} (hd : decode bytes pc = .ok (.imul, 1)) (hz : x * y = z) (hn : n = pc + 1) (E : Ends p e below s R n0 Q T (mkF m n Ls (.int z :: st))) : Ends p e below s R n0 Q T (mkF m pc Ls (.int y :: .int x :: st)) := by subst hz; exact imul P hd hn E
theorem laddL (P : Pos p l e R s m args below meth c Z own nm bytes maxL ret n0 T h cells slots) {x y z : Int64} (hd : decode bytes pc = .ok (.ladd, 1)) (hz : x + y = z) (hn : n = pc + 1) (E : Ends p e below s R n0 Q T (mkF m n Ls (.long z :: st))) : Ends p e below s R n0 Q T (mkF m pc Ls (.long y :: .long x :: st)) := by subst hz; exact ladd P hd hn E
theorem daddL (P : Pos p l e R s m args below meth c Z own nm bytes maxL ret n0 T h cells slots) {x y z : UInt64} (hd : decode bytes pc = .ok (.dadd, 1)) (hz : FP.dadd x y = z ∧ z &&& 0x7fffffffffffffff ≤ 0x7ff0000000000000) (hn : n = pc + 1) (E : Ends p e below s R n0 Q T (mkF m n Ls (.double z :: st))) : Ends p e below s R n0 Q T (mkF m pc Ls (.double y :: .double x :: st)) := by obtain ⟨rfl, hv⟩ := hz; exact dadd P hd hv hn E
theorem dsubL (P : Pos p l e R s m args below meth c Z own nm bytes maxL ret n0 T h cells slots) {x y z : UInt64} (hd : decode bytes pc = .ok (.dsub, 1)) (hz : FP.dsub x y = z ∧ z &&& 0x7fffffffffffffff ≤ 0x7ff0000000000000) (hn : n = pc + 1) (E : Ends p e below s R n0 Q T (mkF m n Ls (.double z :: st))) : Ends p e below s R n0 Q T (mkF m pc Ls (.double y :: .double x :: st)) := by obtain ⟨rfl, hv⟩ := hz; exact dsub P hd hv hn E
theorem dmulL (P : Pos p l e R s m args below meth c Z own nm bytes maxL ret n0 T h cells slots) {x y z : UInt64} (hd : decode bytes pc = .ok (.dmul, 1)) (hz : FP.dmul x y = z ∧ z &&& 0x7fffffffffffffff ≤ 0x7ff0000000000000) (hn : n = pc + 1) (E : Ends p e below s R n0 Q T (mkF m n Ls (.double z :: st))) : Ends p e below s R n0 Q T (mkF m pc Ls (.double y :: .double x :: st)) := by obtain ⟨rfl, hv⟩ := hz; exact dmul P hd hv hn E
theorem ddivL (P : Pos p l e R s m args below meth c Z own nm bytes maxL ret n0 T h cells slots) {x y z : UInt64} (hd : decode bytes pc = .ok (.ddiv, 1)) (hz : FP.ddiv x y = z ∧ z &&& 0x7fffffffffffffff ≤ 0x7ff0000000000000) (hn : n = pc + 1) (E : Ends p e below s R n0 Q T (mkF m n Ls (.double z :: st))) : Ends p e below s R n0 Q T (mkF m pc Ls (.double y :: .double x :: st)) := by obtain ⟨rfl, hv⟩ := hz; exact ddiv P hd hv hn E
theorem dnegL (P : Pos p l e R s m args below meth c Z own nm bytes maxL ret n0 T h cells slots) {x z : UInt64} (hd : decode bytes pc = .ok (.dneg, 1)) (hz : FP.dneg x = z) (hn : n = pc + 1) (E : Ends p e below s R n0 Q T (mkF m n Ls (.double z :: st))) : Ends p e below s R n0 Q T (mkF m pc Ls (.double x :: st)) := by subst hn; exact E.via fun t k => XS.dnegS P.here P.hx rfl (hb P.code hd) rfl hz k
theorem dconst1 (P : Pos p l e R s m args below meth c Z own nm bytes maxL ret n0 T h cells slots) (hd : decode bytes pc = .ok (.dconst 1, 1)) (hn : n = pc + 1) (E : Ends p e below s R n0 Q T (mkF m n Ls (.double 4607182418800017408 :: st))) : Ends p e below s R n0 Q T (mkF m pc Ls st) := by subst hn; exact E.via fun t k => XS.dconst1 P.here P.hx rfl (hb P.code hd) rfl k
theorem ialoadV {j : Int32} {u : Nat} {g : Nat → Int32} {v : Int32} (P : Pos p l e R s m args below meth c Z own nm bytes maxL ret n0 T h cells slots) (hd : decode bytes pc = .ok (.iaload, 1)) (A : ARI Z h a .int k g) (hj : j.toInt = u ∧ u < k) (hv : g u = v) (hn : n = pc + 1) (E : Ends p e below s R n0 Q T (mkF m n Ls (.int v :: st))) : Ends p e below s R n0 Q T (mkF m pc Ls (.int j :: .ref a :: st)) := by subst hv; exact ialoadI P hd A hj hn E
theorem daloadV {j : Int32} {u : Nat} {g : Nat → UInt64} {v : UInt64} (P : Pos p l e R s m args below meth c Z own nm bytes maxL ret n0 T h cells slots) (hd : decode bytes pc = .ok (.daload, 1)) (A : ARD Z h a k g) (hj : j.toInt = u ∧ u < k) (hv : g u = v) (hn : n = pc + 1) (E : Ends p e below s R n0 Q T (mkF m n Ls (.double v :: st))) : Ends p e below s R n0 Q T (mkF m pc Ls (.int j :: .ref a :: st)) := by subst hv; exact daloadD P hd A hj hn E
theorem dupX2 (P : Pos p l e R s m args below meth c Z own nm bytes maxL ret n0 T h cells slots) {x y z : Value} (hd : decode bytes pc = .ok (.dup_x2, 1)) (hc : x.category = 1) (hc' : y.category = 1) (hc'' : z.category = 1) (hn : n = pc + 1) (E : Ends p e below s R n0 Q T (mkF m n Ls (x :: y :: z :: x :: st))) : Ends p e below s R n0 Q T (mkF m pc Ls (x :: y :: z :: st)) := by subst hn; exact E.via fun t k => dupX2' P.here P.hx rfl (hb P.code hd) rfl hc hc' hc'' k
theorem retRA {w : Value} {ty : FieldType} (P : Pos p l e R s m args below meth c Z own nm bytes maxL (some (.array ty)) n0 T h cells slots) (hd : decode bytes pc = .ok (.areturn, 1)) (hw : w.isRef = true) (hc : cells ≤ R.cells) (hs : slots ≤ R.slots) (q : Q (some w) h) : Ends p e below s R n0 Q T (mkF m pc Ls (w :: st)) := by
  refine retA P hd ?_ (Or.inr (Or.inr (Or.inr (Or.inr ⟨rfl, rfl, hw⟩)))) hc hs q
  rcases ref_cases hw with rfl | ⟨z, rfl⟩ <;> rfl
theorem acopyT {index : Nat} {k' : Nat} {f' : Nat → Value} {sp dp nn : Int32} {S D N : Nat} (P : Pos p l e R s m args below meth c Z own nm bytes maxL ret n0 T h cells slots) (hd : decode bytes pc = .ok (.invokestatic index, 3))
    (w1 : (Cond.methodLink own index Jvm.Stand.acN).before a0 Z = true) (w2 : (Cond.native Jvm.Stand.acN).before a0 Z = true) (w3 : (Cond.static Jvm.Stand.acN).before a0 Z = true) (w4 : (Cond.initialized "java/lang/System").before a0 Z = true)
    (ht : refKind ty = false) (A : AR Z h a ty k f) (B : AR Z h b ty k' f') (fA : ∀ i, i < k → fits ty (f i) = true) (fB : ∀ i, i < k' → fits ty (f' i) = true) (hs : sp.toInt = S ∧ dp.toInt = D ∧ nn.toInt = N) (h4 : S + N ≤ k) (h5 : D + N ≤ k') (ge : n0 ≤ b) (hsz : Ls.size = maxL)
    (hr : 1 ≤ R.frames ∧ (st.map fun v => v.category).sum + (nativeFrameWords "java/lang/System" "arraycopy" 5 + 11) ≤ R.locals) (hn : n = pc + 3)
    (E : ∀ T h', Pos p l e R s m args below meth c Z own nm bytes maxL ret n0 T h' cells slots → Keep h h' [b] → AR Z h' b ty k' (fun i => if D ≤ i ∧ i < D + N then f (S + (i - D)) else f' i) → Ends p e below s R n0 Q T (mkF m n Ls st)) : Ends p e below s R n0 Q T (mkF m pc Ls (.int nn :: .int dp :: .ref b :: .int sp :: .ref a :: st)) := by
  subst hn; obtain ⟨locs, X, NF⟩ := P.stand
  have e0 : (0 : Int32).toInt = 0 := rfl
  have gd : ∀ (F : Nat → Value) (K i : Nat), i < K → ((List.range K).map F).getD i (.int 0) = F i := fun F K i hi => by simp [List.getD_eq_getElem?_getD, hi]
  have kA := A.len; have kB := B.len
  obtain ⟨kC, VA⟩ := AR.arv (vs := (List.range k).map f) (dv := .int 0) (N := Int32.ofNat k) A (Int32.toInt_ofNat_small kA) (fun i hi => (gd f k i hi).symm) (fun i hi => by rw [gd f k i hi]; exact fA i hi)
  obtain ⟨kD, VB⟩ := AR.arv (vs := (List.range k').map f') (dv := .int 0) (N := Int32.ofNat k') B (Int32.toInt_ofNat_small kB) (fun i hi => (gd f' k' i hi).symm) (fun i hi => by rw [gd f' k' i hi]; exact fB i hi)
  have c1 : sp.toNatClampNeg = S := by simp only [Int32.toNatClampNeg]; omega
  have c2 : dp.toNatClampNeg = D := by simp only [Int32.toNatClampNeg]; omega
  have c3 : nn.toNatClampNeg = N := by simp only [Int32.toNatClampNeg]; omega
  have c4 : (Int32.ofNat k).toNatClampNeg = k := by simp only [Int32.toNatClampNeg, Int32.toInt_ofNat_small kA]; omega
  have c5 : (Int32.ofNat k').toNatClampNeg = k' := by simp only [Int32.toNatClampNeg, Int32.toInt_ofNat_small kB]; omega
  obtain ⟨T', h', L, X', e', NL, K, V', kk⟩ := cpA X P.hx P.hZ P.own' w1 w2 w3 w4 P.heap VA VB (Or.inl ⟨rfl, ht⟩) (by rw [Int32.lt_iff_toInt_lt, e0]; omega) (by rw [Int32.lt_iff_toInt_lt, e0]; omega) (by rw [Int32.lt_iff_toInt_lt, e0]; omega) (by omega) (by omega) rfl (by simp; omega) NF ge
    (g := mkF m pc Ls (.int nn :: .int dp :: .ref b :: .int sp :: .ref a :: st)) rfl (hsz.trans P.maxl.symm) rfl (hb P.code hd) hr.1 (W := (st.map fun v => v.category).sum) (by show 2 * 0 + _ ≤ _; omega) hr.2
  refine (E T' h' (P.to X' NL e') K ((Arv.ari V' (Int32.toInt_ofNat_small kB)).congr fun i hi => ?_)).via kk
  simp only [c1, c2, c3, List.getD_eq_getElem?_getD]
  by_cases q1 : i < D
  · rw [if_neg (by omega), List.append_assoc, List.getElem?_append_left (by simp; omega)]
    simp [q1, hi]
  · by_cases q2 : i < D + N
    · rw [if_pos (by omega), List.append_assoc, List.getElem?_append_right (by simp; omega), List.getElem?_append_left (by simp; omega)]
      have z1 : min D k' = D := by omega
      have z2 : i - D < N := by omega
      have z3 : S + (i - D) < k := by omega
      simp [z1, z2, z3]
    · rw [if_neg (by omega), List.getElem?_append_right (by simp; omega)]
      have z1 : min D k' = D := by omega
      have z4 : D + N + (i - (D + N)) = i := by omega
      simp [z1, z4, hi]
/-! calls -/
theorem Meth.back {y : MethodName} {cb : ByteArray} {mL : Nat} {rt : Option FieldType} {rm : Room} {as : Array Value} {Qc : Option Value → Heap → Prop} {W : Nat} (hM : Meth l Z y cb mL rt rm as h n0 Qc) (hZ : Z.Warmed39 s.vm) (wc : (Cond.code y cb mL rt).before a0 Z = true) (wz : (Cond.initialized y.cls).before a0 Z = true) (hf : rm.frames + 1 ≤ R.frames) (hl : W + (mL + 11) + rm.locals ≤ R.locals) :
    Back l R p e below s args y 3 W (fun A a => a = as ∧ A.U.heap = h ∧ A.cells + rm.cells ≤ R.cells ∧ A.slots + rm.slots ≤ R.slots) (fun A _ v B => ∃ L, (Qc v B.U.heap ∧ Fr n0 L) ∧ B.locs = A.locs ++ L ∧ B.cells = A.cells + rm.cells ∧ B.slots = A.slots + rm.slots) :=
  backOf (Q := fun v h' L => Qc v h' ∧ Fr n0 L) (hM []) hZ wc wz hf hl
theorem callS {index : Nat} {y : MethodName} {cb : ByteArray} {mL : Nat} {rt : Option FieldType} {rm : Room} {argsL rest stk : List Value} {ps : List FieldType} {r : Option FieldType} {Qc : Option Value → Heap → Prop} (P : Pos p l e R s m args below meth c Z own nm bytes maxL ret n0 T h cells slots) (hd : decode bytes pc = .ok (.invokestatic index, 3))
    (hM : Meth l Z y cb mL rt rm argsL.toArray h n0 Qc) (w1 : (Cond.methodLink own index y).before a0 Z = true) (w2 : (Cond.static y).before a0 Z = true) (w3 : (Cond.initialized y.cls).before a0 Z = true) (w4 : (Cond.code y cb mL rt).before a0 Z = true) (hy : y.cls ≠ "java/lang/invoke/MethodHandle" ∧ y.cls ≠ "java/lang/invoke/VarHandle")
    (hp : parseMethodDescriptor y.desc = some ⟨ps, r⟩) (hl : argsL.length = ps.length) (hst : stk = argsL.reverse ++ rest) (hsz : Ls.size = maxL) (hr : rm.frames + 1 ≤ R.frames ∧ (rest.map fun v => v.category).sum + (mL + 11) + rm.locals ≤ R.locals ∧ cells + rm.cells ≤ R.cells ∧ slots + rm.slots ≤ R.slots) (hn : n = pc + 3)
    (E : ∀ T h' v, Pos p l e R s m args below meth c Z own nm bytes maxL ret n0 T h' (cells + rm.cells) (slots + rm.slots) → Qc v h' → Ends p e below s R n0 Q T (mkF m n Ls (v.toList ++ rest))) : Ends p e below s R n0 Q T (mkF m pc Ls stk) := by
  subst hn hst; obtain ⟨locs, X, N⟩ := P.stand
  obtain ⟨v, _, ⟨T', L', k', n'⟩, -, X', ⟨Lc, hQ, e1, e2, e3⟩, kk⟩ := Jvm.LawKit.callS X P.hx (y := y) P.own' (mvT P.hZ w1) (mvT P.hZ w2) (mvT P.hZ w3) (mvT P.hZ w4) hy (hM.back (W := (rest.map fun v => v.category).sum) P.hZ w4 w3 hr.1 hr.2.1) (g := mkF m pc Ls (argsL.reverse ++ rest)) rfl (hsz.trans P.maxl.symm) (argsL := argsL) (rest := rest) (lenOf hp hl) rfl (by show 2 * 0 + _ ≤ _; omega) (hb P.code hd) (fun _ _ => ⟨rfl, P.heap, hr.2.2.1, hr.2.2.2⟩)
  dsimp only [Pt.U, Pt.locs, Pt.cells, Pt.slots] at X' e1 e2 e3 kk hQ
  subst e1 e2 e3
  exact (E T' T'.heap v (P.to X' (Fr.app N hQ.2) rfl) hQ.1).via kk

/-! Math.abs, Math.min, Math.max of doubles -/
theorem absD {index : Nat} {by0 : ByteArray} {ml : Nat} {x z : UInt64} (P : Pos p l e R s m args below meth c Z own nm bytes maxL ret n0 T h cells slots) (hd : decode bytes pc = .ok (.invokestatic index, 3))
    (w1 : (Cond.methodLink own index Jvm.Free.NT.mathAbs64N).before a0 Z = true) (w2 : (Cond.static Jvm.Free.NT.mathAbs64N).before a0 Z = true) (w3 : (Cond.initialized "java/lang/Math").before a0 Z = true) (w4 : (Cond.code Jvm.Free.NT.mathAbs64N by0 ml (some .double)).before a0 Z = true)
    (hsz : Ls.size = maxL) (hr : 1 ≤ R.frames ∧ (st.map fun v => v.category).sum + (ml + 11) ≤ R.locals ∧ cells ≤ R.cells ∧ slots ≤ R.slots) (hv : x &&& 0x7fffffffffffffff ≤ 0x7ff0000000000000 ∧ x &&& 0x7fffffffffffffff = z) (hn : n = pc + 3)
    (E : ∀ T, Pos p l e R s m args below meth c Z own nm bytes maxL ret n0 T h cells slots → Ends p e below s R n0 Q T (mkF m n Ls (.double z :: st))) : Ends p e below s R n0 Q T (mkF m pc Ls (.double x :: st)) := by
  subst hn; obtain ⟨locs, X, N⟩ := P.stand
  obtain ⟨T', X', e', kk⟩ := Jvm.RoadKit.natS X P.hx P.hZ (y := Jvm.Free.NT.mathAbs64N) P.own' w1 w2 w3 w4 (by decide) P.heap (W := (st.map fun v => v.category).sum) (F := fun a => a = #[.double x]) (val := .double (x &&& 0x7fffffffffffffff)) (val' := .double z)
    (fun c4 => (Jvm.Free.NT.Abs64.pays c4 (mvT P.hZ w2) hr.1 hr.2.1).mono (fun A a q => ⟨x, q.2.2, hv.1⟩) (fun A a v B q r => ⟨r.2 x ⟨q.2.2, hv.1⟩, r.1⟩)) (g := mkF m pc Ls (.double x :: st)) rfl (hsz.trans P.maxl.symm) (argsL := [.double x]) (rest := st) (lenOf Jvm.Free.NT.mathAbs64_desc rfl) rfl (by show 2 * 0 + _ ≤ _; omega) (hb P.code hd) hr.2.2.1 hr.2.2.2 rfl (by rw [hv.2])
  exact (E T' (P.to X' N e')).via kk
theorem minD {index : Nat} {by0 : ByteArray} {ml : Nat} {x y z : UInt64} (P : Pos p l e R s m args below meth c Z own nm bytes maxL ret n0 T h cells slots) (hd : decode bytes pc = .ok (.invokestatic index, 3))
    (w1 : (Cond.methodLink own index Jvm.Free.NT.mathMin64N).before a0 Z = true) (w2 : (Cond.static Jvm.Free.NT.mathMin64N).before a0 Z = true) (w3 : (Cond.initialized "java/lang/Math").before a0 Z = true) (w4 : (Cond.code Jvm.Free.NT.mathMin64N by0 ml (some .double)).before a0 Z = true)
    (hsz : Ls.size = maxL) (hr : 1 ≤ R.frames ∧ (st.map fun v => v.category).sum + (ml + 11) ≤ R.locals ∧ cells ≤ R.cells ∧ slots ≤ R.slots) (hv : FP.dIsNaN x = false ∧ FP.dIsNaN y = false) (hz : Jvm.Native.java_lang_Math.nans.pick64 false x y = z) (hn : n = pc + 3)
    (E : ∀ T, Pos p l e R s m args below meth c Z own nm bytes maxL ret n0 T h cells slots → Ends p e below s R n0 Q T (mkF m n Ls (.double z :: st))) : Ends p e below s R n0 Q T (mkF m pc Ls (.double y :: .double x :: st)) := by
  subst hn; obtain ⟨locs, X, N⟩ := P.stand
  obtain ⟨T', X', e', kk⟩ := Jvm.RoadKit.natS X P.hx P.hZ (y := Jvm.Free.NT.mathMin64N) P.own' w1 w2 w3 w4 (by decide) P.heap (W := (st.map fun v => v.category).sum) (F := fun a => a = #[.double x, .double y]) (val := .double (Jvm.Native.java_lang_Math.nans.pick64 false x y)) (val' := .double z)
    (fun c4 => (Jvm.Free.NT.Min64.pays c4 (mvT P.hZ w2) hr.1 hr.2.1).mono (fun A a q => ⟨(x, y), q.2.2, hv⟩) (fun A a v B q r => ⟨r.2 (x, y) ⟨q.2.2, hv⟩, r.1⟩)) (g := mkF m pc Ls (.double y :: .double x :: st)) rfl (hsz.trans P.maxl.symm) (argsL := [.double x, .double y]) (rest := st) (lenOf Jvm.Free.NT.mathMin64_desc rfl) rfl (by show 2 * 0 + _ ≤ _; omega) (hb P.code hd) hr.2.2.1 hr.2.2.2 rfl (by rw [hz])
  exact (E T' (P.to X' N e')).via kk
theorem maxD {index : Nat} {by0 : ByteArray} {ml : Nat} {x y z : UInt64} (P : Pos p l e R s m args below meth c Z own nm bytes maxL ret n0 T h cells slots) (hd : decode bytes pc = .ok (.invokestatic index, 3))
    (w1 : (Cond.methodLink own index Jvm.Free.NT.mathMax64N).before a0 Z = true) (w2 : (Cond.static Jvm.Free.NT.mathMax64N).before a0 Z = true) (w3 : (Cond.initialized "java/lang/Math").before a0 Z = true) (w4 : (Cond.code Jvm.Free.NT.mathMax64N by0 ml (some .double)).before a0 Z = true)
    (hsz : Ls.size = maxL) (hr : 1 ≤ R.frames ∧ (st.map fun v => v.category).sum + (ml + 11) ≤ R.locals ∧ cells ≤ R.cells ∧ slots ≤ R.slots) (hv : FP.dIsNaN x = false ∧ FP.dIsNaN y = false) (hz : Jvm.Native.java_lang_Math.nans.pick64 true x y = z) (hn : n = pc + 3)
    (E : ∀ T, Pos p l e R s m args below meth c Z own nm bytes maxL ret n0 T h cells slots → Ends p e below s R n0 Q T (mkF m n Ls (.double z :: st))) : Ends p e below s R n0 Q T (mkF m pc Ls (.double y :: .double x :: st)) := by
  subst hn; obtain ⟨locs, X, N⟩ := P.stand
  obtain ⟨T', X', e', kk⟩ := Jvm.RoadKit.natS X P.hx P.hZ (y := Jvm.Free.NT.mathMax64N) P.own' w1 w2 w3 w4 (by decide) P.heap (W := (st.map fun v => v.category).sum) (F := fun a => a = #[.double x, .double y]) (val := .double (Jvm.Native.java_lang_Math.nans.pick64 true x y)) (val' := .double z)
    (fun c4 => (Jvm.Free.NT.Max64.pays c4 (mvT P.hZ w2) hr.1 hr.2.1).mono (fun A a q => ⟨(x, y), q.2.2, hv⟩) (fun A a v B q r => ⟨r.2 (x, y) ⟨q.2.2, hv⟩, r.1⟩)) (g := mkF m pc Ls (.double y :: .double x :: st)) rfl (hsz.trans P.maxl.symm) (argsL := [.double x, .double y]) (rest := st) (lenOf Jvm.Free.NT.mathMax64_desc rfl) rfl (by show 2 * 0 + _ ≤ _; omega) (hb P.code hd) hr.2.2.1 hr.2.2.2 rfl (by rw [hz])
  exact (E T' (P.to X' N e')).via kk
theorem callN {a : Addr} {index : Nat} {y : MethodName} {cb : ByteArray} {mL : Nat} {rm : Room} {argsL rest stk : List Value} {ps : List FieldType} {r : Option FieldType} {Qc : Option Value → Heap → Prop} (P : Pos p l e R s m args below meth c Z own nm bytes maxL ret n0 T h cells slots) (hd : decode bytes pc = .ok (.invokespecial index, 3))
    (hM : Meth l Z y cb mL none rm (.ref a :: argsL).toArray h n0 Qc) (hy1 : y.name = "<init>") (w1 : (Cond.methodLink own index y).before a0 Z = true) (w2 : (Cond.instanceMethod y).before a0 Z = true) (w3 : (Cond.initialized y.cls).before a0 Z = true) (w4 : (Cond.code y cb mL none).before a0 Z = true) (hy : y.cls ≠ "java/lang/invoke/MethodHandle" ∧ y.cls ≠ "java/lang/invoke/VarHandle")
    (hp : parseMethodDescriptor y.desc = some ⟨ps, r⟩) (hl : argsL.length = ps.length) (hst : stk = argsL.reverse ++ .ref a :: rest) (hsz : Ls.size = maxL) (hr : rm.frames + 1 ≤ R.frames ∧ (rest.map fun v => v.category).sum + (mL + 11) + rm.locals ≤ R.locals ∧ cells + rm.cells ≤ R.cells ∧ slots + rm.slots ≤ R.slots) (hn : n = pc + 3)
    (E : ∀ T h' v, Pos p l e R s m args below meth c Z own nm bytes maxL ret n0 T h' (cells + rm.cells) (slots + rm.slots) → Qc v h' → Ends p e below s R n0 Q T (mkF m n Ls (v.toList ++ rest))) : Ends p e below s R n0 Q T (mkF m pc Ls stk) := by
  subst hn hst; obtain ⟨locs, X, N⟩ := P.stand
  obtain ⟨v, _, ⟨T', L', k', n'⟩, -, X', ⟨Lc, hQ, e1, e2, e3⟩, kk⟩ := X.specialBack P.hx (y := y) hy1 P.own' (mvT P.hZ w1) (mvT P.hZ w2) (mvT P.hZ w4) hy (hM.back (W := (rest.map fun v => v.category).sum) P.hZ w4 w3 hr.1 hr.2.1) (g := mkF m pc Ls (argsL.reverse ++ .ref a :: rest)) rfl (hsz.trans P.maxl.symm) (Steps.refl _) (a := a) (argsL := argsL) (rest := rest) (lenOf hp hl) rfl (by show 2 * 0 + _ ≤ _; omega) (hb P.code hd) (fun _ _ => ⟨rfl, P.heap, hr.2.2.1, hr.2.2.2⟩)
  dsimp only [Pt.U, Pt.locs, Pt.cells, Pt.slots] at X' e1 e2 e3 kk hQ
  subst e1 e2 e3
  exact (E T' T'.heap v (P.to X' (Fr.app N hQ.2) rfl) hQ.1).via fun t k => kk.trans k
theorem callV {a : Addr} {C : String} {z : MethodName} {index : Nat} {y : MethodName} {cb : ByteArray} {mL : Nat} {rt : Option FieldType} {rm : Room} {argsL rest stk : List Value} {ps : List FieldType} {r : Option FieldType} {Qc : Option Value → Heap → Prop} (P : Pos p l e R s m args below meth c Z own nm bytes maxL ret n0 T h cells slots) (hd : decode bytes pc = .ok (.invokevirtual index, 3))
    (hM : Meth l Z z cb mL rt rm (.ref a :: argsL).toArray h n0 Qc) (X0 : Exa Z h a C) (w1 : (Cond.methodLink own index y).before a0 Z = true) (w2 : (Cond.declares y).before a0 Z = true) (nf : NotFace s y) (ws : (Cond.selects C y z).before a0 Z = true) (wi : (Cond.instanceMethod z).before a0 Z = true) (w3 : (Cond.initialized z.cls).before a0 Z = true) (w4 : (Cond.code z cb mL rt).before a0 Z = true) (hy : y.cls ≠ "java/lang/invoke/MethodHandle" ∧ y.cls ≠ "java/lang/invoke/VarHandle")
    (hp : parseMethodDescriptor y.desc = some ⟨ps, r⟩) (hl : argsL.length = ps.length) (hst : stk = argsL.reverse ++ .ref a :: rest) (hsz : Ls.size = maxL) (hr : rm.frames + 1 ≤ R.frames ∧ (rest.map fun v => v.category).sum + (mL + 11) + rm.locals ≤ R.locals ∧ cells + rm.cells ≤ R.cells ∧ slots + rm.slots ≤ R.slots) (hn : n = pc + 3)
    (E : ∀ T h' v, Pos p l e R s m args below meth c Z own nm bytes maxL ret n0 T h' (cells + rm.cells) (slots + rm.slots) → Qc v h' → Ends p e below s R n0 Q T (mkF m n Ls (v.toList ++ rest))) : Ends p e below s R n0 Q T (mkF m pc Ls stk) := by
  subst hn hst; obtain ⟨locs, X, N⟩ := P.stand
  obtain ⟨cq, kq, q1, q2, q3⟩ := isOf P.hZ P.heap X0
  obtain ⟨v, _, ⟨T', L', k', n'⟩, -, X', ⟨Lc, hQ, e1, e2, e3⟩, kk⟩ := X.virtualBack P.hx (y := y) (z := z) P.own' (mvT P.hZ w1) (mvT P.hZ w2) nf (mvT P.hZ ws) (mvT P.hZ wi) hy (hM.back (W := (rest.map fun v => v.category).sum) P.hZ w4 w3 hr.1 hr.2.1) q1 q3 (g := mkF m pc Ls (argsL.reverse ++ .ref a :: rest)) rfl (hsz.trans P.maxl.symm) (Steps.refl _) (argsL := argsL) (rest := rest) (lenOf hp hl) rfl (by show 2 * 0 + _ ≤ _; omega) (hb P.code hd) (fun _ _ => ⟨rfl, P.heap, hr.2.2.1, hr.2.2.2⟩)
  dsimp only [Pt.U, Pt.locs, Pt.cells, Pt.slots] at X' e1 e2 e3 kk hQ
  subst e1 e2 e3
  exact (E T' T'.heap v (P.to X' (Fr.app N hQ.2) rfl) hQ.1).via fun t k => kk.trans k
theorem callP {a : Addr} {C : String} {kk : Nat} {index : Nat} {y : MethodName} {cb : ByteArray} {mL : Nat} {rt : Option FieldType} {rm : Room} {argsL rest stk : List Value} {ps : List FieldType} {r : Option FieldType} {Qc : Option Value → Heap → Prop} (P : Pos p l e R s m args below meth c Z own nm bytes maxL ret n0 T h cells slots) (hd : decode bytes pc = .ok (.invokevirtual index, 3))
    (hM : Meth l Z y cb mL rt rm (.ref a :: argsL).toArray h n0 Qc) (X0 : Exa Z h a C) (w1 : (Cond.methodLink own index y).before a0 Z = true) (wi : (Cond.instanceMethod y).before a0 Z = true) (wn : (Cond.instantiable y.cls kk).before a0 Z = true) (wp : (Cond.privateMethod y).before a0 Z = true) (w3 : (Cond.initialized y.cls).before a0 Z = true) (w4 : (Cond.code y cb mL rt).before a0 Z = true) (hy : y.cls ≠ "java/lang/invoke/MethodHandle" ∧ y.cls ≠ "java/lang/invoke/VarHandle")
    (hp : parseMethodDescriptor y.desc = some ⟨ps, r⟩) (hl : argsL.length = ps.length) (hst : stk = argsL.reverse ++ .ref a :: rest) (hsz : Ls.size = maxL) (hr : rm.frames + 1 ≤ R.frames ∧ (rest.map fun v => v.category).sum + (mL + 11) + rm.locals ≤ R.locals ∧ cells + rm.cells ≤ R.cells ∧ slots + rm.slots ≤ R.slots) (hn : n = pc + 3)
    (E : ∀ T h' v, Pos p l e R s m args below meth c Z own nm bytes maxL ret n0 T h' (cells + rm.cells) (slots + rm.slots) → Qc v h' → Ends p e below s R n0 Q T (mkF m n Ls (v.toList ++ rest))) : Ends p e below s R n0 Q T (mkF m pc Ls stk) := by
  subst hn hst; obtain ⟨locs, X, N⟩ := P.stand
  obtain ⟨cq, q1, q2⟩ := X0.cell
  have wi' : (Cond.instanceMethod y).before args s = true := mvT P.hZ wi
  have pv : s.PrivateAt y := Cond.privateMethod_at (mvP P.hZ wp (args := #[]))
  obtain ⟨c0, k0, hc0, hk0, -, hfl, -⟩ := Cond.instantiable_spec (mvT P.hZ wn (args := args))
  have ws : (Cond.selects y.cls y y).before args s = true := selects_self_of_private hc0 hk0 (by simp_all) pv wi' hy
  obtain ⟨v, _, ⟨T', L', k', n'⟩, -, X', ⟨Lc, hQ, e1, e2, e3⟩, kk⟩ := X.privateBack P.hx (y := y) P.own' (mvT P.hZ w1) wi' ws pv (mvT P.hZ w4) hy (hM.back (W := (rest.map fun v => v.category).sum) P.hZ w4 w3 hr.1 hr.2.1) (g := mkF m pc Ls (argsL.reverse ++ .ref a :: rest)) rfl (hsz.trans P.maxl.symm) (Steps.refl _) (a := a) (by rw [P.heap]; exact q1) q2 (argsL := argsL) (rest := rest) (lenOf hp hl) rfl (by show 2 * 0 + _ ≤ _; omega) (hb P.code hd) (fun _ _ => ⟨rfl, P.heap, hr.2.2.1, hr.2.2.2⟩)
  dsimp only [Pt.U, Pt.locs, Pt.cells, Pt.slots] at X' e1 e2 e3 kk hQ
  subst e1 e2 e3
  exact (E T' T'.heap v (P.to X' (Fr.app N hQ.2) rfl) hQ.1).via fun t k => kk.trans k
/-- a constructor's call paid by a given Back -/
theorem callNB {a : Addr} {index : Nat} {y : MethodName} {cb : ByteArray} {mL : Nat} {argsL rest stk : List Value} {ps : List FieldType} {r : Option FieldType} {kc ks : Nat} {QQ : Option Value → Heap → List Loc → Prop} (P : Pos p l e R s m args below meth c Z own nm bytes maxL ret n0 T h cells slots) (hd : decode bytes pc = .ok (.invokespecial index, 3))
    (hB : Back l R p e below s args y 3 (rest.map fun v => v.category).sum (fun A a' => a' = (.ref a :: argsL).toArray ∧ A.U.heap = h ∧ A.cells + kc ≤ R.cells ∧ A.slots + ks ≤ R.slots) (fun A _ v B => ∃ L, QQ v B.U.heap L ∧ B.locs = A.locs ++ L ∧ B.cells = A.cells + kc ∧ B.slots = A.slots + ks))
    (hQF : ∀ v h' L, QQ v h' L → Fr n0 L) (hy1 : y.name = "<init>") (w1 : (Cond.methodLink own index y).before a0 Z = true) (w2 : (Cond.instanceMethod y).before a0 Z = true) (w4 : (Cond.code y cb mL none).before a0 Z = true) (hy : y.cls ≠ "java/lang/invoke/MethodHandle" ∧ y.cls ≠ "java/lang/invoke/VarHandle")
    (hp : parseMethodDescriptor y.desc = some ⟨ps, r⟩) (hl : argsL.length = ps.length) (hst : stk = argsL.reverse ++ .ref a :: rest) (hsz : Ls.size = maxL) (hr : cells + kc ≤ R.cells ∧ slots + ks ≤ R.slots) (hn : n = pc + 3)
    (E : ∀ T h' v L, Pos p l e R s m args below meth c Z own nm bytes maxL ret n0 T h' (cells + kc) (slots + ks) → QQ v h' L → Ends p e below s R n0 Q T (mkF m n Ls (v.toList ++ rest))) : Ends p e below s R n0 Q T (mkF m pc Ls stk) := by
  subst hn hst; obtain ⟨locs, X, N⟩ := P.stand
  obtain ⟨v, _, ⟨T', L', k', n'⟩, -, X', ⟨Lc, hQ, e1, e2, e3⟩, kk⟩ := X.specialBack P.hx (y := y) hy1 P.own' (mvT P.hZ w1) (mvT P.hZ w2) (mvT P.hZ w4) hy hB (g := mkF m pc Ls (argsL.reverse ++ .ref a :: rest)) rfl (hsz.trans P.maxl.symm) (Steps.refl _) (a := a) (argsL := argsL) (rest := rest) (lenOf hp hl) rfl (by show 2 * 0 + _ ≤ _; omega) (hb P.code hd) (fun _ _ => ⟨rfl, P.heap, hr.1, hr.2⟩)
  dsimp only [Pt.U, Pt.locs, Pt.cells, Pt.slots] at X' e1 e2 e3 kk hQ
  subst e1 e2 e3
  exact (E T' T'.heap v Lc (P.to X' (Fr.app N (hQF _ _ _ hQ)) rfl) hQ).via fun t k => kk.trans k
/-- returns v and leaves the heap as it was -/
def Ret (v : Value) (h : Heap) : Option Value → Heap → Prop := fun w h' => w = some v ∧ h' = h
theorem Ret.ofI {x y : Int32} (q : x = y) : Ret (.int y) h (some (.int x)) h := ⟨by rw [q], rfl⟩
theorem Ret.ofL {x y : Int64} (q : x = y) : Ret (.long y) h (some (.long x)) h := ⟨by rw [q], rfl⟩
theorem Ret.ofA {x y : Value} (q : x = y) : Ret y h (some x) h := ⟨by rw [q], rfl⟩
/-- the continuation behind a call that only returns -/
theorem Ret.on {v : Value} {cells' slots' : Nat} {rest : List Value} (E : ∀ T, Pos p l e R s m args below meth c Z own nm bytes maxL ret n0 T h cells' slots' → Ends p e below s R n0 Q T (mkF m n Ls (v :: rest))) :
    ∀ T h' w, Pos p l e R s m args below meth c Z own nm bytes maxL ret n0 T h' cells' slots' → Ret v h w h' → Ends p e below s R n0 Q T (mkF m n Ls (w.toList ++ rest)) := by
  rintro T h' w P ⟨rfl, rfl⟩; exact E T P

/-- returns nothing and leaves the heap as it was -/
def RetV (h : Heap) : Option Value → Heap → Prop := fun w h' => w = none ∧ h' = h
theorem RetV.mk : RetV h none h := ⟨rfl, rfl⟩
theorem RetV.on {cells' slots' : Nat} {rest : List Value} (E : ∀ T, Pos p l e R s m args below meth c Z own nm bytes maxL ret n0 T h cells' slots' → Ends p e below s R n0 Q T (mkF m n Ls rest)) :
    ∀ T h' w, Pos p l e R s m args below meth c Z own nm bytes maxL ret n0 T h' cells' slots' → RetV h w h' → Ends p e below s R n0 Q T (mkF m n Ls (w.toList ++ rest)) := by
  rintro T h' w P ⟨rfl, rfl⟩; exact E T P
/-- returns an int (a long) of which F holds, and leaves the heap as it was -/
def RetI (F : Int32 → Prop) (h : Heap) : Option Value → Heap → Prop := fun w h' => ∃ z, w = some (.int z) ∧ F z ∧ h' = h
def RetJ (F : Int64 → Prop) (h : Heap) : Option Value → Heap → Prop := fun w h' => ∃ z, w = some (.long z) ∧ F z ∧ h' = h
theorem RetI.mk {F : Int32 → Prop} {x : Int32} (q : F x) : RetI F h (some (.int x)) h := ⟨x, rfl, q, rfl⟩
theorem RetJ.mk {F : Int64 → Prop} {x : Int64} (q : F x) : RetJ F h (some (.long x)) h := ⟨x, rfl, q, rfl⟩
theorem RetI.on {F : Int32 → Prop} {cells' slots' : Nat} {rest : List Value} (E : ∀ T z, Pos p l e R s m args below meth c Z own nm bytes maxL ret n0 T h cells' slots' → F z → Ends p e below s R n0 Q T (mkF m n Ls (.int z :: rest))) :
    ∀ T h' w, Pos p l e R s m args below meth c Z own nm bytes maxL ret n0 T h' cells' slots' → RetI F h w h' → Ends p e below s R n0 Q T (mkF m n Ls (w.toList ++ rest)) := by
  rintro T h' w P ⟨z, rfl, q, rfl⟩; exact E T z P q
theorem RetJ.on {F : Int64 → Prop} {cells' slots' : Nat} {rest : List Value} (E : ∀ T z, Pos p l e R s m args below meth c Z own nm bytes maxL ret n0 T h cells' slots' → F z → Ends p e below s R n0 Q T (mkF m n Ls (.long z :: rest))) :
    ∀ T h' w, Pos p l e R s m args below meth c Z own nm bytes maxL ret n0 T h' cells' slots' → RetJ F h w h' → Ends p e below s R n0 Q T (mkF m n Ls (w.toList ++ rest)) := by
  rintro T h' w P ⟨z, rfl, q, rfl⟩; exact E T z P q
end Core
/-! numbers: what an operation is worth where nothing wraps -/
section Num
theorem n_iadd {x y z : Int32} {X Y : Int} (hz : z = x + y) (hx : x.toInt = X) (hy : y.toInt = Y) (b : -2147483648 ≤ X + Y ∧ X + Y ≤ 2147483647) : z.toInt = X + Y := by
  subst hz hx hy; have := c_iadd x y; have := rng32 (x + y); omega
theorem n_isub {x y z : Int32} {X Y : Int} (hz : z = x - y) (hx : x.toInt = X) (hy : y.toInt = Y) (b : -2147483648 ≤ X - Y ∧ X - Y ≤ 2147483647) : z.toInt = X - Y := by
  subst hz hx hy; have := c_isub x y; have := rng32 (x - y); omega
theorem n_imul {x y z : Int32} {X Y : Int} (hz : z = x * y) (hx : x.toInt = X) (hy : y.toInt = Y) (b : -2147483648 ≤ X * Y ∧ X * Y ≤ 2147483647) : z.toInt = X * Y := by
  subst hz hx hy; have h1 := c_imul x y; have := rng32 (x * y); generalize x.toInt * y.toInt = w at *; omega
theorem n_ladd {x y z : Int64} {X Y : Int} (hz : z = x + y) (hx : x.toInt = X) (hy : y.toInt = Y) (b : -9223372036854775808 ≤ X + Y ∧ X + Y ≤ 9223372036854775807) : z.toInt = X + Y := by
  subst hz hx hy; have := c_ladd x y; have := rng64 (x + y); omega
theorem n_lsub {x y z : Int64} {X Y : Int} (hz : z = x - y) (hx : x.toInt = X) (hy : y.toInt = Y) (b : -9223372036854775808 ≤ X - Y ∧ X - Y ≤ 9223372036854775807) : z.toInt = X - Y := by
  subst hz hx hy; have := c_lsub x y; have := rng64 (x - y); omega
theorem n_lmul {x y z : Int64} {X Y : Int} (hz : z = x * y) (hx : x.toInt = X) (hy : y.toInt = Y) (b : -9223372036854775808 ≤ X * Y ∧ X * Y ≤ 9223372036854775807) : z.toInt = X * Y := by
  subst hz hx hy; have h1 := c_lmul x y; have := rng64 (x * y); generalize x.toInt * y.toInt = w at *; omega
theorem n_i2l {x : Int32} {z : Int64} {X : Int} (hz : z = x.toInt64) (hx : x.toInt = X) : z.toInt = X := by subst hz hx; exact c_i2l x
theorem n_irem {x y z : Int32} {X Y : Int} (hz : z = x % y) (hx : x.toInt = X) (hy : y.toInt = Y) (b : 0 ≤ X) : z.toInt = X % Y := by
  subst hz hx; exact (c_irem x y Y hy).1 b
theorem n_idiv {x y z : Int32} {X Y : Int} (hz : z = x / y) (hx : x.toInt = X) (hy : y.toInt = Y) (b : 0 ≤ X ∧ 0 < Y) : z.toInt = X / Y := by
  subst hz hx; exact (c_idiv x y Y hy (fun q => by subst q; have : (-1 : Int32).toInt = -1 := rfl; omega)).1 b.1
theorem n_ldiv {x y z : Int64} {X Y : Int} (hz : z = x / y) (hx : x.toInt = X) (hy : y.toInt = Y) (b : 0 ≤ X ∧ 0 < Y) : z.toInt = X / Y := by
  subst hz hx; exact (c_ldiv x y Y hy (fun q => by subst q; have : (-1 : Int64).toInt = -1 := rfl; omega)).1 b.1
theorem n_mask {x m z : Int32} {X : Int} (k : Nat) (hz : z = x &&& m) (hx : x.toInt = X) (hk : k ≤ 31 ∧ m.toBitVec.toNat = 2 ^ k - 1) : z.toInt = X % (2 ^ k : Nat) := by subst hz hx; exact c_mask x m k hk.1 hk.2
theorem n_maskL {x m z : Int64} {X : Int} (k : Nat) (hz : z = x &&& m) (hx : x.toInt = X) (hk : k ≤ 63 ∧ m.toBitVec.toNat = 2 ^ k - 1) : z.toInt = X % (2 ^ k : Nat) := by subst hz hx; exact c_maskL x m k hk.1 hk.2
theorem n_iushr {x q z : Int32} {X : Int} (k : Nat) (hz : z = (x.toUInt32 >>> (q &&& 31).toUInt32).toInt32) (hx : x.toInt = X) (hk : q.toBitVec.toNat % 32 = k ∧ 0 < k) : z.toInt = (X % 4294967296) / (2 ^ k : Nat) := by subst hz hx; exact c_iushr x q k hk.1 hk.2
theorem n_ishr {x q z : Int32} {X : Int} (k : Nat) (hz : z = x >>> (q &&& 31)) (hx : x.toInt = X) (hk : q.toBitVec.toNat % 32 = k) : z.toInt = X / (2 ^ k : Nat) := by subst hz hx; exact c_ishr x q k hk
theorem n_iremV {x y z : Int32} (hz : z = x % y) (hx : 0 ≤ x.toInt) (hy : 0 < y.toInt) : 0 ≤ z.toInt ∧ z.toInt < y.toInt := by
  subst hz; have := (c_iremV x y).1 hx hy; omega
theorem nzI {y : Int32} (h : ¬ y.toInt = 0) : y ≠ 0 := fun q => h (by rw [q]; rfl)
theorem nzL {y : Int64} (h : ¬ y.toInt = 0) : y ≠ 0 := fun q => h (by rw [q]; rfl)
theorem b8 (x : Int32) : x.toInt8.toInt32.toInt8.toInt32 = x.toInt8.toInt32 := by simp
theorem eqI {x y : Int32} (h : x.toInt = y.toInt) : x = y := Int32.toInt_inj.mp h
theorem eqL {x y : Int64} (h : x.toInt = y.toInt) : x = y := Int64.toInt_inj.mp h
theorem ofI {x : Int32} {X : Int} (h : x.toInt = X) : x = Int32.ofInt X := by rw [← h]; exact (Int32.ofInt_toInt x).symm
theorem ofL {x : Int64} {X : Int} (h : x.toInt = X) : x = Int64.ofInt X := by rw [← h]; exact (Int64.ofInt_toInt x).symm
end Num
end Jvm.Own
namespace Jvm.Pilot.@@N@@
open Jvm Jvm.ClassFile Sem Op Lib Jvm.Free Jvm.Stand Jvm.LawKit Jvm.RoadKit Bundle Jvm.Pilot.@@N@@.Jvm.D
open Jvm.Own
theorem pn_0 : plainName "com/example/hertzbid/hertzbid/mechanisms/DualSimplex" = true := by first | (simp [plainName, overriddenIn]; done) | decide +kernel
theorem pn_1 : plainName "java/util/Arrays" = true := by first | (simp [plainName, overriddenIn]; done) | decide +kernel
theorem pn_2 : plainName "com/example/hertzbid/hertzbid/mechanisms/DualSimplexSetBoundsPinLaw" = true := by first | (simp [plainName, overriddenIn]; done) | decide +kernel
theorem pd_0 : parseMethodDescriptor "([D[D[D)V" = some ⟨[(.array .double), (.array .double), (.array .double)], none⟩ := by decide +kernel
theorem pd_1 : parseMethodDescriptor "([II)V" = some ⟨[(.array .int), .int], none⟩ := by decide +kernel
theorem pd_2 : parseMethodDescriptor "(IDD)V" = some ⟨[.int, .double, .double], none⟩ := by decide +kernel
theorem pd_3 : parseMethodDescriptor "(I)D" = some ⟨[.int], some .double⟩ := by decide +kernel
theorem pd_4 : parseMethodDescriptor "([I[DD)I" = some ⟨[(.array .int), (.array .double), .double], some .int⟩ := by decide +kernel
theorem pd_5 : parseMethodDescriptor "(J)Lcom/example/hertzbid/hertzbid/mechanisms/DualSimplex$Status;" = some ⟨[.long], some (.object "com/example/hertzbid/hertzbid/mechanisms/DualSimplex$Status")⟩ := by decide +kernel
theorem pd_6 : parseMethodDescriptor "()V" = some ⟨[], none⟩ := by decide +kernel
theorem pd_7 : parseMethodDescriptor "([D)[D" = some ⟨[(.array .double)], some (.array .double)⟩ := by decide +kernel
theorem pd_8 : parseMethodDescriptor "()I" = some ⟨[], some .int⟩ := by decide +kernel
theorem pd_9 : parseMethodDescriptor "(I)V" = some ⟨[.int], none⟩ := by decide +kernel
theorem pd_10 : parseMethodDescriptor "([DD)V" = some ⟨[(.array .double), .double], none⟩ := by decide +kernel
theorem pd_11 : parseMethodDescriptor "(Z)I" = some ⟨[.boolean], some .int⟩ := by decide +kernel
theorem pd_12 : parseMethodDescriptor "(ID)Z" = some ⟨[.int, .double], some .boolean⟩ := by decide +kernel
theorem pd_13 : parseMethodDescriptor "(IIZ)V" = some ⟨[.int, .int, .boolean], none⟩ := by decide +kernel
theorem pd_14 : parseMethodDescriptor "(I)[D" = some ⟨[.int], some (.array .double)⟩ := by decide +kernel
theorem pd_15 : parseMethodDescriptor "(ID)V" = some ⟨[.int, .double], none⟩ := by decide +kernel
theorem pd_16 : parseMethodDescriptor "(II[DD)V" = some ⟨[.int, .int, (.array .double), .double], none⟩ := by decide +kernel
theorem pd_17 : parseMethodDescriptor "()D" = some ⟨[], some .double⟩ := by decide +kernel
theorem pd_18 : parseMethodDescriptor "(II[D)V" = some ⟨[.int, .int, (.array .double)], none⟩ := by decide +kernel

def z_gd {α : Type} (p : Prop) [Decidable p] (x : Option α) : Option α := if p then x else none
theorem z_bnd {α β : Type} {o : Option α} {f : α → Option β} {b : β} (h : o.bind f = some b) : ∃ a, o = some a ∧ f a = some b := by
  cases o with
  | none => cases h
  | some a => exact ⟨a, rfl, h⟩
theorem z_gdd {α : Type} {p : Prop} [Decidable p] {o : Option α} {b : α} (h : z_gd p o = some b) : p ∧ o = some b := by
  unfold z_gd at h
  split at h
  · exact ⟨‹_›, h⟩
  · cases h
theorem z_inj3 {α β γ : Type} {a a' : α} {b b' : β} {c c' : γ} (h : some (a, b, c) = some (a', b', c')) : a = a' ∧ b = b' ∧ c = c' := by cases h; exact ⟨rfl, rfl, rfl⟩
theorem z_inj4 {α β γ δ : Type} {a a' : α} {b b' : β} {c c' : γ} {d d' : δ} (h : some (a, b, c, d) = some (a', b', c', d')) : a = a' ∧ b = b' ∧ c = c' ∧ d = d' := by cases h; exact ⟨rfl, rfl, rfl, rfl⟩
def ZR {α β : Type} (R : α → β → Prop) : List α → List β → Prop
  | [], b => b = []
  | x :: A, b => ∃ y r, b = y :: r ∧ R x y ∧ ZR R A r
section Rel
variable {α β : Type} {R R' : α → β → Prop}
theorem ZR.nil : ZR R [] [] := rfl
theorem ZR.cons {x : α} {y : β} {A : List α} {b : List β} (q : R x y) (h : ZR R A b) : ZR R (x :: A) (y :: b) := ⟨y, b, rfl, q, h⟩
theorem ZR.len : ∀ {A : List α} {b : List β}, ZR R A b → b.length = A.length
  | [], _, h => by obtain rfl : _ = [] := h; rfl
  | _ :: _, _, h => by obtain ⟨y, r, rfl, _, h⟩ := h; simp [ZR.len h]
theorem ZR.get : ∀ {A : List α} {b : List β} {j : Nat} {x : α}, ZR R A b → A[j]? = some x → ∃ y, b[j]? = some y ∧ R x y
  | [], _, _, _, _, q => by simp at q
  | _ :: _, _, 0, _, h, q => by
    obtain ⟨y, r, rfl, hy, _⟩ := h
    simp only [List.getElem?_cons_zero, Option.some.injEq] at q
    subst q; exact ⟨y, rfl, hy⟩
  | _ :: _, _, j + 1, _, h, q => by
    obtain ⟨y, r, rfl, _, h⟩ := h
    simp only [List.getElem?_cons_succ] at q
    obtain ⟨z, hz, k⟩ := ZR.get h q
    exact ⟨z, by simpa only [List.getElem?_cons_succ] using hz, k⟩
theorem ZR.set : ∀ {A : List α} {b : List β} {x : α} {y : β} (j : Nat), ZR R A b → R x y → ZR R (A.set j x) (b.set j y)
  | [], _, _, _, _, h, _ => by obtain rfl : _ = [] := h; rfl
  | _ :: _, _, _, _, 0, h, q => by obtain ⟨y', r, rfl, _, h⟩ := h; exact ⟨_, _, rfl, q, h⟩
  | _ :: _, _, _, _, j + 1, h, q => by obtain ⟨y', r, rfl, k, h⟩ := h; exact ⟨_, _, rfl, k, ZR.set j h q⟩
theorem ZR.app : ∀ {A B : List α} {a b : List β}, ZR R A a → ZR R B b → ZR R (A ++ B) (a ++ b)
  | [], _, _, _, h, k => by obtain rfl : _ = [] := h; exact k
  | _ :: _, _, _, _, h, k => by obtain ⟨y, r, rfl, q, h⟩ := h; exact ⟨_, _, rfl, q, ZR.app h k⟩
theorem ZR.split : ∀ {A B : List α} {c : List β}, ZR R (A ++ B) c → ∃ a b, c = a ++ b ∧ ZR R A a ∧ ZR R B b
  | [], _, c, h => ⟨[], c, rfl, rfl, h⟩
  | _ :: _, _, _, h => by obtain ⟨y, r, rfl, q, h⟩ := h; obtain ⟨a, b, rfl, h1, h2⟩ := ZR.split h; exact ⟨y :: a, b, rfl, ⟨_, _, rfl, q, h1⟩, h2⟩
theorem ZR.rev : ∀ {A : List α} {a : List β}, ZR R A a → ZR R A.reverse a.reverse
  | [], _, h => by obtain rfl : _ = [] := h; rfl
  | _ :: _, _, h => by obtain ⟨y, r, rfl, q, h⟩ := h; simp only [List.reverse_cons]; exact ZR.app (ZR.rev h) (ZR.cons q ZR.nil)
theorem ZR.mono (q : ∀ x y, R x y → R' x y) : ∀ {A : List α} {b : List β}, ZR R A b → ZR R' A b
  | [], _, h => h
  | _ :: _, _, h => by obtain ⟨y, r, rfl, k, h⟩ := h; exact ⟨_, _, rfl, q _ _ k, ZR.mono q h⟩
theorem ZR.rep {x : α} {y : β} (q : R x y) : ∀ n : Nat, ZR R (List.replicate n x) (List.replicate n y)
  | 0 => ZR.nil
  | n + 1 => ZR.cons q (ZR.rep q n)
end Rel
/-! values: an address by its place in ρ (1000000: any); .retAddr k the unknown int ι k, .float k the double of it -/
def ZV (ι : Nat → Int32) (ρ : List Addr) (a b : Value) : Prop :=
  match a with
  | .ref k => ∃ x, b = .ref x ∧ (ρ[k]? = some x ∨ k = 1000000)
  | .float j => b = .double (FP.i2d (ι j.toNat))
  | .retAddr k => b = .int (ι k)
  | .int x => b = .int x
  | .long x => b = .long x
  | .double x => b = .double x
  | .null => b = .null
def ZS (ι : Nat → Int32) (ρ : List Addr) (a b : Slot) : Prop :=
  match a with
  | .val v => ∃ w, b = .val w ∧ ZV ι ρ v w
  | .second => b = .second
  | .unset => b = .unset
def ZO (ι : Nat → Int32) (ρ : List Addr) (a b : Option Value) : Prop :=
  match a with
  | none => b = none
  | some v => ∃ w, b = some w ∧ ZV ι ρ v w
def z_cat : Value → Nat
  | .long _ => 2
  | .double _ => 2
  | .float _ => 2
  | _ => 1
def z_okI : Value → Bool
  | .int _ => true
  | .retAddr _ => true
  | _ => false
def z_okD : Value → Bool
  | .double _ => true
  | .float _ => true
  | _ => false
def z_okJ : Value → Bool
  | .long _ => true
  | _ => false
def z_okA : Value → Bool
  | .ref _ => true
  | .null => true
  | _ => false
def z_okR : Value → Bool
  | .ref _ => true
  | _ => false
def z_ok1 (v : Value) : Bool := z_cat v == 1
section Val
variable {ι : Nat → Int32} {ρ t : List Addr} {a b : Value}
theorem ZV.mono (h : ZV ι ρ a b) : ZV ι (ρ ++ t) a b := by
  cases a with
  | ref k => obtain ⟨x, rfl, h⟩ := h; exact ⟨x, rfl, h.imp (fun q => by rw [List.getElem?_append_left (List.getElem?_eq_some_iff.mp q).1]; exact q) id⟩
  | _ => exact h
theorem ZS.mono {a b : Slot} (h : ZS ι ρ a b) : ZS ι (ρ ++ t) a b := by
  cases a with
  | val v => obtain ⟨w, rfl, h⟩ := h; exact ⟨w, rfl, h.mono⟩
  | _ => exact h
theorem ZV.cat (h : ZV ι ρ a b) : b.category = z_cat a := by
  cases a <;> first | (obtain rfl : b = _ := h; rfl) | (obtain ⟨x, rfl, _⟩ := h; rfl)
theorem z_okI_v (o : z_okI a = true) (h : ZV ι ρ a b) : ∃ x, b = .int x := by
  cases a <;> first | exact ⟨_, h⟩ | cases o
theorem z_okD_v (o : z_okD a = true) (h : ZV ι ρ a b) : ∃ x, b = .double x := by
  cases a <;> first | exact ⟨_, h⟩ | cases o
theorem z_okJ_v (o : z_okJ a = true) (h : ZV ι ρ a b) : ∃ x, b = .long x := by
  cases a <;> first | exact ⟨_, h⟩ | cases o
theorem z_okA_v (o : z_okA a = true) (h : ZV ι ρ a b) : b.isRef = true := by
  cases a <;> first | (obtain rfl : b = _ := h; rfl) | (obtain ⟨x, rfl, _⟩ := h; rfl) | cases o
theorem z_okR_v (o : z_okR a = true) (h : ZV ι ρ a b) : ∃ x, b = .ref x := by
  cases a <;> first | (obtain ⟨x, rfl, _⟩ := h; exact ⟨x, rfl⟩) | cases o
theorem z_ok1_v (o : z_ok1 a = true) (h : ZV ι ρ a b) : b.category = 1 := by
  rw [h.cat]; exact beq_iff_eq.mp o
theorem z_sum : ∀ {A b : List Value}, ZR (ZV ι ρ) A b → (b.map fun v => v.category).sum = (A.map z_cat).sum
  | [], _, h => by obtain rfl : _ = [] := h; rfl
  | _ :: _, _, h => by obtain ⟨y, r, rfl, q, h⟩ := h; simp only [List.map_cons, List.sum_cons, q.cat, z_sum h]
end Val
/-! locals -/
def z_ld (ok : Value → Bool) (L : List Slot) (j : Nat) : Option Value :=
  match L[j]? with
  | some (.val v) => if ok v then some v else none
  | _ => none
def z_st1 (L : List Slot) (j : Nat) (v : Value) : Option (List Slot) :=
  if z_cat v = 2 then
    match L[j + 1]? with
    | none => none
    | some (.val o) => if z_cat o = 2 then none else some ((L.set j (.val v)).set (j + 1) .second)
    | some .second => some ((L.set j (.val v)).set (j + 1) .second)
    | some .unset => some ((L.set j (.val v)).set (j + 1) .second)
  else some (L.set j (.val v))
def z_st (L : List Slot) (j : Nat) (v : Value) : Option (List Slot) :=
  match L[j]? with
  | none => none
  | some .second => none
  | some (.val o) => if z_cat o = 2 then (if j + 1 < L.length then z_st1 (L.set (j + 1) .unset) j v else none) else z_st1 L j v
  | some .unset => z_st1 L j v
theorem own_storeSelf (l : Array Slot) (i : Nat) (v : Value) : storeSelf l i v = (setAt l i (.val v)).bind (fun l => if v.category = 2 then (l[i + 1]?).bind (fun x => match x with | .val old => if old.category = 2 then (setAt l (i + 2) .unset).bind (fun l' => setAt l' (i + 1) .second) else setAt l (i + 1) .second | _ => setAt l (i + 1) .second) else some l) := rfl
theorem own_storeLocals (l : Array Slot) (i : Nat) (v : Value) : storeLocals l i v = (l[i]?).bind (fun x => match x with | .second => (setAt l (i - 1) .unset).bind (fun l' => storeSelf l' i v) | .val old => if old.category = 2 then (setAt l (i + 1) .unset).bind (fun l' => storeSelf l' i v) else storeSelf l i v | .unset => storeSelf l i v) := rfl
theorem z_setAt {l : Array Slot} {i : Nat} {x : Slot} (h : i < l.size) : setAt l i x = some (l.setIfInBounds i x) := if_pos h
section Loc
variable {ι : Nat → Int32} {ρ : List Addr} {ok : Value → Bool} {L L' : List Slot} {j : Nat} {v w : Value} {Lr : Array Slot}
theorem z_ld_ok (q : z_ld ok L j = some v) (h : ZR (ZS ι ρ) L Lr.toList) : ok v = true ∧ ∃ w, Lr[j]? = some (.val w) ∧ ZV ι ρ v w := by
  unfold z_ld at q
  split at q
  · rename_i u e
    split at q
    · rename_i o
      obtain rfl := Option.some.inj q
      obtain ⟨y, hy, w, rfl, k⟩ := ZR.get h e
      exact ⟨o, w, by rw [← Array.getElem?_toList]; exact hy, k⟩
    · cases q
  · cases q
theorem z_st1_ok (hj : j < L.length) (h : ZR (ZS ι ρ) L Lr.toList) (k : ZV ι ρ v w) (q : z_st1 L j v = some L') : ∃ Lr', storeSelf Lr j w = some Lr' ∧ ZR (ZS ι ρ) L' Lr'.toList := by
  have e : Lr.size = L.length := by have := ZR.len h; simpa using this
  have c := k.cat
  have fin : ∀ {y : Slot}, Lr.toList[j + 1]? = some y → (∀ z, y = .val z → ¬ z.category = 2) → z_cat v = 2 → ∃ Lr', storeSelf Lr j w = some Lr' ∧ ZR (ZS ι ρ) ((L.set j (.val v)).set (j + 1) .second) Lr'.toList := by
    intro y hy ny q2
    have lt : j + 1 < Lr.size := by have := (List.getElem?_eq_some_iff.mp hy).1; simpa using this
    have hy' : (Lr.setIfInBounds j (.val w))[j + 1]? = some y := by rw [Array.getElem?_setIfInBounds_ne (by omega), ← Array.getElem?_toList]; exact hy
    have sa : setAt (Lr.setIfInBounds j (.val w)) (j + 1) .second = some ((Lr.setIfInBounds j (.val w)).setIfInBounds (j + 1) .second) := z_setAt (by simpa using lt)
    refine ⟨(Lr.setIfInBounds j (.val w)).setIfInBounds (j + 1) .second, ?_, ?_⟩
    · rw [own_storeSelf, z_setAt (by omega)]
      show (if w.category = 2 then ((Lr.setIfInBounds j (.val w))[j + 1]?).bind _ else _) = _
      rw [if_pos (c.trans q2), hy']
      cases y with
      | val z => show (if z.category = 2 then _ else _) = _; rw [if_neg (ny z rfl)]; exact sa
      | second => exact sa
      | unset => exact sa
    · rw [Array.toList_setIfInBounds, Array.toList_setIfInBounds]
      exact ZR.set _ (ZR.set _ h ⟨w, rfl, k⟩) rfl
  unfold z_st1 at q
  split at q
  · rename_i q2
    split at q
    · cases q
    · rename_i o e1
      split at q
      · cases q
      · rename_i o2
        obtain rfl := Option.some.inj q
        obtain ⟨y, hy, w', rfl, kk⟩ := ZR.get h e1
        exact fin hy (fun z hz => by cases hz; rw [kk.cat]; exact o2) q2
    · rename_i e1
      obtain rfl := Option.some.inj q
      obtain ⟨y, hy, hk⟩ := ZR.get h e1
      obtain rfl : y = .second := hk
      exact fin hy (fun z hz => by cases hz) q2
    · rename_i e1
      obtain rfl := Option.some.inj q
      obtain ⟨y, hy, hk⟩ := ZR.get h e1
      obtain rfl : y = .unset := hk
      exact fin hy (fun z hz => by cases hz) q2
  · rename_i q2
    obtain rfl := Option.some.inj q
    refine ⟨Lr.setIfInBounds j (.val w), ?_, ?_⟩
    · rw [own_storeSelf, z_setAt (by omega)]
      show (if w.category = 2 then _ else some _) = _
      rw [if_neg (by rw [c]; exact q2)]
    · rw [Array.toList_setIfInBounds]; exact ZR.set _ h ⟨w, rfl, k⟩
theorem z_st_ok (h : ZR (ZS ι ρ) L Lr.toList) (k : ZV ι ρ v w) (q : z_st L j v = some L') : ∃ Lr', storeLocals Lr j w = some Lr' ∧ ZR (ZS ι ρ) L' Lr'.toList := by
  have e : Lr.size = L.length := by have := ZR.len h; simpa using this
  unfold z_st at q
  split at q
  · cases q
  · cases q
  · rename_i o e1
    have hj := (List.getElem?_eq_some_iff.mp e1).1
    obtain ⟨y, hy, w', rfl, kk⟩ := ZR.get h e1
    have hy' : Lr[j]? = some (.val w') := by rw [← Array.getElem?_toList]; exact hy
    split at q
    · rename_i o2
      split at q
      · rename_i lt
        obtain ⟨Lr', s1, s2⟩ := z_st1_ok (Lr := Lr.setIfInBounds (j + 1) .unset) (by simpa using hj) (by rw [Array.toList_setIfInBounds]; exact ZR.set (j + 1) h (show ZS ι ρ .unset .unset from rfl)) k q
        refine ⟨Lr', ?_, s2⟩
        rw [own_storeLocals, hy']
        show (if w'.category = 2 then _ else _) = _
        rw [if_pos (by rw [kk.cat]; exact o2), z_setAt (by omega)]
        exact s1
      · cases q
    · rename_i o2
      obtain ⟨Lr', s1, s2⟩ := z_st1_ok hj h k q
      refine ⟨Lr', ?_, s2⟩
      rw [own_storeLocals, hy']
      show (if w'.category = 2 then _ else _) = _
      rw [if_neg (by rw [kk.cat]; exact o2)]
      exact s1
  · rename_i e1
    have hj := (List.getElem?_eq_some_iff.mp e1).1
    obtain ⟨y, hy, hk⟩ := ZR.get h e1
    obtain rfl : y = .unset := hk
    have hy' : Lr[j]? = some .unset := by rw [← Array.getElem?_toList]; exact hy
    obtain ⟨Lr', s1, s2⟩ := z_st1_ok hj h k q
    refine ⟨Lr', ?_, s2⟩
    rw [own_storeLocals, hy']
    exact s1
end Loc
/-! the locals at a method's entry -/
def z_ent1 (v : Value) : List Slot := if z_cat v = 2 then [.val v, .second] else [.val v]
def z_ent (as : List Value) (mx : Nat) : List Slot := as.flatMap z_ent1 ++ List.replicate (mx - (as.flatMap z_ent1).length) .unset
def z_ent2 (v : Value) : List Slot := if v.category = 2 then [.val v, .second] else [.val v]
def z_f (acc : Array Slot) (v : Value) : Array Slot := if v.category = 2 then (acc.push (.val v)).push .second else acc.push (.val v)
theorem z_fill (l : List Value) (acc : Array Slot) : l.foldl z_f acc = acc ++ (l.flatMap z_ent2).toArray := by
  induction l generalizing acc with
  | nil => simp
  | cons v l ih =>
    simp only [List.foldl_cons, List.flatMap_cons]
    rw [ih]
    apply Array.toList_inj.mp
    by_cases q : v.category = 2 <;> simp [q, z_ent2, z_f]
theorem z_entry (m : MethodId) (l : List Value) (mx : Nat) : entryFrame m l.toArray mx = mkF m 0 (l.flatMap z_ent2 ++ List.replicate (mx - (l.flatMap z_ent2).length) Slot.unset).toArray [] := by
  have e : argsToLocals l.toArray mx = (l.flatMap z_ent2 ++ List.replicate (mx - (l.flatMap z_ent2).length) Slot.unset).toArray := by
    have e0 : argsToLocals l.toArray mx = l.toArray.foldl z_f #[] ++ Array.replicate (mx - (l.toArray.foldl z_f #[]).size) Slot.unset := rfl
    rw [e0, List.foldl_toArray, z_fill]
    apply Array.toList_inj.mp
    simp
  show ({ method := m, pc := 0, locals := argsToLocals l.toArray mx, stack := [], locked := none } : JFrame) = _
  rw [e]
theorem z_ent_ok {ι : Nat → Int32} {ρ : List Addr} {as l : List Value} (mx : Nat) (h : ZR (ZV ι ρ) as l) : ZR (ZS ι ρ) (z_ent as mx) (l.flatMap z_ent2 ++ List.replicate (mx - (l.flatMap z_ent2).length) Slot.unset) := by
  have f : ∀ {as l : List Value}, ZR (ZV ι ρ) as l → ZR (ZS ι ρ) (as.flatMap z_ent1) (l.flatMap z_ent2) := by
    intro as
    induction as with
    | nil => intro l h; obtain rfl : _ = [] := h; exact ZR.nil
    | cons a as ih =>
      intro l h
      obtain ⟨y, r, rfl, q, h⟩ := h
      simp only [List.flatMap_cons]
      refine ZR.app ?_ (ih h)
      unfold z_ent1 z_ent2
      by_cases k : z_cat a = 2
      · rw [if_pos k, if_pos (q.cat.trans k)]; exact ZR.cons ⟨y, rfl, q⟩ (ZR.cons rfl ZR.nil)
      · rw [if_neg k, if_neg (by rw [q.cat]; exact k)]; exact ZR.cons ⟨y, rfl, q⟩ ZR.nil
  have f' := f h
  unfold z_ent
  rw [ZR.len f']
  exact ZR.app f' (ZR.rep (show ZS ι ρ .unset .unset from rfl) _)
/-! the stack -/
def z_pop (ok : Value → Bool) : List Value → Option (Value × List Value)
  | v :: S => if ok v then some (v, S) else none
  | [] => none
def z_popI : List Value → Option (Int32 × List Value)
  | .int x :: S => some (x, S)
  | _ => none
def z_popJ : List Value → Option (Int64 × List Value)
  | .long x :: S => some (x, S)
  | _ => none
def z_popD : List Value → Option (UInt64 × List Value)
  | .double x :: S => some (x, S)
  | _ => none
def z_popR : List Value → Option (Nat × List Value)
  | .ref x :: S => some (x, S)
  | _ => none
theorem z_pop_ok {ok : Value → Bool} {S : List Value} {a : Value × List Value} (h : z_pop ok S = some a) : S = a.1 :: a.2 ∧ ok a.1 = true := by
  unfold z_pop at h
  split at h
  · split at h
    · cases h; exact ⟨rfl, ‹_›⟩
    · cases h
  · cases h
theorem z_popI_ok {S : List Value} {a : Int32 × List Value} (h : z_popI S = some a) : S = .int a.1 :: a.2 := by
  unfold z_popI at h
  split at h
  · cases h; rfl
  · cases h
theorem z_popJ_ok {S : List Value} {a : Int64 × List Value} (h : z_popJ S = some a) : S = .long a.1 :: a.2 := by
  unfold z_popJ at h
  split at h
  · cases h; rfl
  · cases h
theorem z_popD_ok {S : List Value} {a : UInt64 × List Value} (h : z_popD S = some a) : S = .double a.1 :: a.2 := by
  unfold z_popD at h
  split at h
  · cases h; rfl
  · cases h
theorem z_popR_ok {S : List Value} {a : Nat × List Value} (h : z_popR S = some a) : S = .ref a.1 :: a.2 := by
  unfold z_popR at h
  split at h
  · cases h; rfl
  · cases h
/-! branches, comparisons -/
def z_jmp (pc : Nat) (o : Int) : Option Nat :=
  match (pc : Int) + o with
  | .ofNat t => some t
  | .negSucc _ => none
theorem z_jmp_ok {pc t : Nat} {o : Int} (h : z_jmp pc o = some t) : 0 ≤ (pc : Int) + o ∧ ((pc : Int) + o).toNat = t := by
  unfold z_jmp at h
  split at h
  · rename_i u e
    obtain rfl := Option.some.inj h
    have e' : (pc : Int) + o = (u : Int) := e
    omega
  · cases h
def z_ix (j : Int32) (n : Nat) : Option Nat :=
  match j.toInt with
  | .ofNat u => if u < n then some u else none
  | .negSucc _ => none
theorem z_ix_ok {j : Int32} {n u : Nat} (h : z_ix j n = some u) : j.toInt = u ∧ u < n := by
  unfold z_ix at h
  split at h
  · rename_i v e
    split at h
    · obtain rfl := Option.some.inj h; exact ⟨e, ‹_›⟩
    · cases h
  · cases h
def z_icv (sg : Nat → Int32) : Value → Option Int32
  | .int x => some x
  | .retAddr k => z_gd (k < 2) (some (sg k))
  | _ => none
def z_dcv (sg : Nat → Int32) (o : CmpOp) (x y : Value) : Option Int32 :=
  match x, y with
  | .double x, .double y => some (cmpValue (FP.dcmp x y) o)
  | .float j, .double y => z_gd (y = 0 ∧ j.toNat < 2) (some (sg j.toNat))
  | .float j, .float k => z_gd (j = k) (some 0)
  | _, _ => none
def z_i2d : Value → Option Value
  | .int x => some (.double (FP.i2d x))
  | .retAddr k => z_gd ((UInt32.ofNat k).toNat = k) (some (.float (UInt32.ofNat k)))
  | _ => none
/-- what is known of the unknown ints 0 and 1: their signs -/
def ZG (ι sg : Nat → Int32) : Prop := ∀ k, k < 2 → (∀ o, cmpValue (FP.dcmp (FP.i2d (ι k)) 0) o = sg k) ∧ ∀ cd, ifCond.holds cd (ι k) = ifCond.holds cd (sg k)
theorem z_dz : FP.Core.DInt 0 0 := by
  show FP.Core.Whole 0 (FP.Core.val64 FP.Core.dconst0)
  rw [FP.Core.val64_dconst0]
  show FP.Core.signed false (0 * _) = 0 * _
  simp [FP.Core.signed]
theorem z_nn (x : Int32) : Jvm.Free.Fl.NoNaN64 (FP.i2d x) := Jvm.Free.Fl.val64_no.mpr (FP.Core.DInt_ne_nan (FP.Core.i2d_int x))
def z_sgn (x : Int32) : Int32 := if x.toInt < 0 then -1 else if x.toInt = 0 then 0 else 1
theorem z_sgn_cases (x : Int32) : z_sgn x = -1 ∨ z_sgn x = 0 ∨ z_sgn x = 1 := by
  unfold z_sgn; split
  · exact Or.inl rfl
  · split
    · exact Or.inr (Or.inl rfl)
    · exact Or.inr (Or.inr rfl)
theorem z_sgn_ok (x : Int32) : (∀ o, cmpValue (FP.dcmp (FP.i2d x) 0) o = z_sgn x) ∧ ∀ cd, ifCond.holds cd x = ifCond.holds cd (z_sgn x) := by
  have e : FP.dcmp (FP.i2d x) 0 = some (compare x.toInt 0) := FP.Core.dcmp_int (FP.Core.i2d_int x) z_dz
  refine ⟨fun o => ?_, fun cd => ?_⟩
  · rw [e]; unfold z_sgn
    rcases Int.lt_trichotomy x.toInt 0 with g | g | g
    · rw [if_pos g, show compare x.toInt 0 = Ordering.lt from by rw [Int.compare_eq_lt]; exact g]; rfl
    · rw [if_neg (by omega), if_pos g, show compare x.toInt 0 = Ordering.eq from by rw [Int.compare_eq_eq]; exact g]; rfl
    · rw [if_neg (by omega), if_neg (by omega), show compare x.toInt 0 = Ordering.gt from by rw [Int.compare_eq_gt]; exact g]; rfl
  · have h1 : cP cd x.toInt 0 ↔ ifCond.holds cd x = true := i0 rfl
    have h2 : cP cd (z_sgn x).toInt 0 ↔ ifCond.holds cd (z_sgn x) = true := i0 rfl
    rw [Bool.eq_iff_iff, ← h1, ← h2]
    have e1 : (-1 : Int32).toInt = -1 := by decide
    have e2 : (0 : Int32).toInt = 0 := by decide
    have e3 : (1 : Int32).toInt = 1 := by decide
    unfold z_sgn
    split
    · rw [e1]; cases cd <;> simp only [cP] <;> constructor <;> intro hh <;> first | omega | trivial | simp_all
    · split
      · rw [e2]; cases cd <;> simp only [cP] <;> constructor <;> intro hh <;> first | omega | trivial | simp_all
      · rw [e3]; cases cd <;> simp only [cP] <;> constructor <;> intro hh <;> first | omega | trivial | simp_all
section Cmp
variable {ι sg : Nat → Int32} {ρ : List Addr} {x y wx wy : Value} {o : CmpOp} {z : Int32}
theorem z_icv_ok (G : ZG ι sg) (q : z_icv sg x = some z) (k : ZV ι ρ x wx) : ∃ a, wx = .int a ∧ ∀ cd, ifCond.holds cd a = ifCond.holds cd z := by
  unfold z_icv at q
  split at q
  · obtain rfl := Option.some.inj q; exact ⟨_, k, fun _ => rfl⟩
  · obtain ⟨lt, q⟩ := z_gdd q; obtain rfl := Option.some.inj q; exact ⟨_, k, (G _ lt).2⟩
  · cases q
theorem z_dcv_ok (G : ZG ι sg) (q : z_dcv sg o x y = some z) (kx : ZV ι ρ x wx) (ky : ZV ι ρ y wy) : ∃ a b, wx = .double a ∧ wy = .double b ∧ cmpValue (FP.dcmp a b) o = z := by
  unfold z_dcv at q
  split at q
  · exact ⟨_, _, kx, ky, Option.some.inj q⟩
  · obtain ⟨⟨rfl, lt⟩, q'⟩ := z_gdd q; exact ⟨_, _, kx, ky, ((G _ lt).1 o).trans (Option.some.inj q')⟩
  · obtain ⟨rfl, q'⟩ := z_gdd q; exact ⟨_, _, kx, ky, (Jvm.RoadKit.dcmpV_eq rfl (z_nn _) o).trans (Option.some.inj q')⟩
  · cases q
theorem z_i2d_ok (q : z_i2d x = some y) (k : ZV ι ρ x wx) : ∃ a, wx = .int a ∧ ZV ι ρ y (.double (FP.i2d a)) := by
  unfold z_i2d at q
  split at q
  · obtain rfl := Option.some.inj q; exact ⟨_, k, rfl⟩
  · obtain ⟨e, q⟩ := z_gdd q; obtain rfl := Option.some.inj q
    refine ⟨_, k, ?_⟩
    show Value.double _ = Value.double _
    rw [e]
  · cases q
end Cmp


def z_lod (ok : Value → Bool) (L : List Slot) (j n : Nat) (S : List Value) : Option (Nat × List Slot × List Value) := (z_ld ok L j).bind fun v => some (n, L, v :: S)
def z_sto (ok : Value → Bool) (L : List Slot) (j n : Nat) (S : List Value) : Option (Nat × List Slot × List Value) := (z_pop ok S).bind fun a => (z_st L j a.1).bind fun L' => some (n, L', a.2)
def z_dc (p : Prop) [Decidable p] (n : Nat) (L : List Slot) (S : List Value) : Option (Nat × List Slot × List Value) := if p then some (n, L, .double 0 :: S) else some (n, L, .double 4607182418800017408 :: S)
def z_iop (f : Int32 → Int32 → Int32) (n : Nat) (L : List Slot) (S : List Value) : Option (Nat × List Slot × List Value) := (z_popI S).bind fun y => (z_popI y.2).bind fun x => some (n, L, .int (f x.1 y.1) :: x.2)
def z_dop (f : UInt64 → UInt64 → UInt64) (n : Nat) (L : List Slot) (S : List Value) : Option (Nat × List Slot × List Value) := (z_popD S).bind fun y => (z_popD y.2).bind fun x => z_gd (f x.1 y.1 &&& 0x7fffffffffffffff ≤ 0x7ff0000000000000) (some (n, L, .double (f x.1 y.1) :: x.2))
def z_ldI (L : List Slot) (j : Nat) : Option Int32 :=
  match L[j]? with
  | some (.val (.int x)) => some x
  | _ => none
theorem z_ldI_ok {ι : Nat → Int32} {ρ : List Addr} {L : List Slot} {j : Nat} {x : Int32} {Lr : Array Slot} (q : z_ldI L j = some x) (h : ZR (ZS ι ρ) L Lr.toList) : Lr[j]? = some (.val (.int x)) := by
  unfold z_ldI at q
  split at q
  · rename_i u e
    obtain rfl := Option.some.inj q
    obtain ⟨y, hy, w, rfl, k⟩ := ZR.get h e
    obtain rfl : w = _ := k
    rw [← Array.getElem?_toList]; exact hy
  · cases q
def z_len : Instr → Nat
  | .iload _ => 2
  | .lload _ => 2
  | .dload _ => 2
  | .aload _ => 2
  | .istore _ => 2
  | .lstore _ => 2
  | .dstore _ => 2
  | .astore _ => 2
  | .bipush _ => 2
  | .ldc _ => 2
  | .newarray _ => 2
  | .ldc2_w _ => 3
  | .iinc _ _ => 3
  | .goto _ => 3
  | .if_icmp _ _ => 3
  | .ifCond _ _ => 3
  | .getfield _ => 3
  | .putfield _ => 3
  | .getstatic _ => 3
  | .invokevirtual _ => 3
  | .invokespecial _ => 3
  | .invokestatic _ => 3
  | .new _ => 3
  | .anewarray _ => 3
  | .checkcast _ => 3
  | .multianewarray _ _ => 4
  | _ => 1
def z_pst (sg : Nat → Int32) (i : Instr) (pc : Nat) (L : List Slot) (S : List Value) : Option (Nat × List Slot × List Value) :=
  match i with
  | .iload_n j => z_lod z_okI L j.val (pc + 1) S
  | .istore_n j => z_sto z_okI L j.val (pc + 1) S
  | .iload j => z_lod z_okI L j (pc + 2) S
  | .istore j => z_sto z_okI L j (pc + 2) S
  | .lload_n j => z_lod z_okJ L j.val (pc + 1) S
  | .lstore_n j => z_sto z_okJ L j.val (pc + 1) S
  | .lload j => z_lod z_okJ L j (pc + 2) S
  | .lstore j => z_sto z_okJ L j (pc + 2) S
  | .dload_n j => z_lod z_okD L j.val (pc + 1) S
  | .dstore_n j => z_sto z_okD L j.val (pc + 1) S
  | .dload j => z_lod z_okD L j (pc + 2) S
  | .dstore j => z_sto z_okD L j (pc + 2) S
  | .aload_n j => z_lod z_okA L j.val (pc + 1) S
  | .astore_n j => z_sto z_okA L j.val (pc + 1) S
  | .aload j => z_lod z_okA L j (pc + 2) S
  | .astore j => z_sto z_okA L j (pc + 2) S
  | .iconst k => some (pc + 1, L, .int (Int32.ofInt k) :: S)
  | .bipush k => some (pc + 2, L, .int (Int8.ofInt k).toInt32 :: S)
  | .lconst k => some (pc + 1, L, .long (Int64.ofNat k.val) :: S)
  | .dconst k => z_dc (k.val = 0) (pc + 1) L S
  | .iadd => z_iop (fun x y => x + y) (pc + 1) L S
  | .isub => z_iop (fun x y => x - y) (pc + 1) L S
  | .imul => z_iop (fun x y => x * y) (pc + 1) L S
  | .ladd => (z_popJ S).bind fun y => (z_popJ y.2).bind fun x => some (pc + 1, L, .long (x.1 + y.1) :: x.2)
  | .lcmp => (z_popJ S).bind fun y => (z_popJ y.2).bind fun x => some (pc + 1, L, .int (lcmpW x.1 y.1) :: x.2)
  | .dadd => z_dop FP.dadd (pc + 1) L S
  | .dsub => z_dop FP.dsub (pc + 1) L S
  | .dmul => z_dop FP.dmul (pc + 1) L S
  | .ddiv => z_dop FP.ddiv (pc + 1) L S
  | .dneg => (z_popD S).bind fun x => some (pc + 1, L, .double (FP.dneg x.1) :: x.2)
  | .dcmp o => (z_pop z_okD S).bind fun y => (z_pop z_okD y.2).bind fun x => (z_dcv sg o x.1 y.1).bind fun z => some (pc + 1, L, .int z :: x.2)
  | .i2d => (z_pop z_okI S).bind fun x => (z_i2d x.1).bind fun v => some (pc + 1, L, v :: x.2)
  | .iinc j k => (z_ldI L j).bind fun x => (z_st L j (.int (x + Int32.ofInt k))).bind fun L' => some (pc + 3, L', S)
  | .dup => (z_pop z_ok1 S).bind fun x => some (pc + 1, L, x.1 :: x.1 :: x.2)
  | .dup2 => (z_pop z_ok1 S).bind fun x => (z_pop z_ok1 x.2).bind fun y => some (pc + 1, L, x.1 :: y.1 :: x.1 :: y.1 :: y.2)
  | .dup_x1 => (z_pop z_ok1 S).bind fun x => (z_pop z_ok1 x.2).bind fun y => some (pc + 1, L, x.1 :: y.1 :: x.1 :: y.2)
  | .dup_x2 => (z_pop z_ok1 S).bind fun x => (z_pop z_ok1 x.2).bind fun y => (z_pop z_ok1 y.2).bind fun z => some (pc + 1, L, x.1 :: y.1 :: z.1 :: x.1 :: z.2)
  | .pop => (z_pop z_ok1 S).bind fun x => some (pc + 1, L, x.2)
  | .goto o => (z_jmp pc o).bind fun t => some (t, L, S)
  | .if_icmp cd o => (z_popI S).bind fun y => (z_popI y.2).bind fun x => (z_jmp pc o).bind fun t => some (if if_icmp.holds cd x.1 y.1 then t else pc + 3, L, x.2)
  | .ifCond cd o => (z_pop z_okI S).bind fun x => (z_icv sg x.1).bind fun k => (z_jmp pc o).bind fun t => some (if ifCond.holds cd k then t else pc + 3, L, x.2)
  | _ => none
section Pure
variable {p : Program} {l : Launch} {e : Env} {R : Room} {s : State} {m : MethodId} {args : Array Value} {below : List Frame} {meth : Method} {c : Code} {Z : State} {own nm : String} {bytes : ByteArray} {maxL : Nat} {ret : Option FieldType} {n0 : Nat} {a0 : Array Value}
  {T : State} {h h' : Heap} {cells slots : Nat} {Q : Option Value → Heap → Prop} {Ls : Array Slot} {st : List Value} {pc n : Nat} {ι : Nat → Int32} {sg : Nat → Int32} {ρ : List Addr} {L L' : List Slot} {S S' : List Value}
theorem z_pst_ok (G : ZG ι sg) {i : Instr} (P : Jvm.Own.Pos p l e R s m args below meth c Z own nm bytes maxL ret n0 T h cells slots) (hd : decode bytes pc = .ok (i, z_len i)) (HL : ZR (ZS ι ρ) L Ls.toList) (HS : ZR (ZV ι ρ) S st) (q : z_pst sg i pc L S = some (n, L', S'))
    (E : ∀ Ls' st', ZR (ZS ι ρ) L' Ls'.toList → ZR (ZV ι ρ) S' st' → Jvm.Own.Ends p e below s R n0 Q T (mkF m n Ls' st')) : Jvm.Own.Ends p e below s R n0 Q T (mkF m pc Ls st) := by
  unfold z_pst at q
  split at q
  · obtain ⟨v, q1, q⟩ := z_bnd q
    obtain ⟨rfl, rfl, rfl⟩ := z_inj3 q
    obtain ⟨o, w, hl, k⟩ := z_ld_ok q1 HL
    obtain ⟨x, rfl⟩ := z_okI_v o k
    exact iloadN P hd hl rfl (E _ _ HL (ZR.cons k HS))
  · obtain ⟨a, q1, q⟩ := z_bnd q
    obtain ⟨L1, q2, q⟩ := z_bnd q
    obtain ⟨rfl, rfl, rfl⟩ := z_inj3 q
    obtain ⟨e1, o⟩ := z_pop_ok q1
    subst e1
    obtain ⟨w, r, rfl, k, hs⟩ := HS
    obtain ⟨Lr, s1, s2⟩ := z_st_ok HL k q2
    obtain ⟨x, rfl⟩ := z_okI_v o k
    exact istoreN P hd s1 rfl (E _ _ s2 hs)
  · obtain ⟨v, q1, q⟩ := z_bnd q
    obtain ⟨rfl, rfl, rfl⟩ := z_inj3 q
    obtain ⟨o, w, hl, k⟩ := z_ld_ok q1 HL
    obtain ⟨x, rfl⟩ := z_okI_v o k
    exact iload P hd hl rfl (E _ _ HL (ZR.cons k HS))
  · obtain ⟨a, q1, q⟩ := z_bnd q
    obtain ⟨L1, q2, q⟩ := z_bnd q
    obtain ⟨rfl, rfl, rfl⟩ := z_inj3 q
    obtain ⟨e1, o⟩ := z_pop_ok q1
    subst e1
    obtain ⟨w, r, rfl, k, hs⟩ := HS
    obtain ⟨Lr, s1, s2⟩ := z_st_ok HL k q2
    obtain ⟨x, rfl⟩ := z_okI_v o k
    exact istore P hd s1 rfl (E _ _ s2 hs)
  · obtain ⟨v, q1, q⟩ := z_bnd q
    obtain ⟨rfl, rfl, rfl⟩ := z_inj3 q
    obtain ⟨o, w, hl, k⟩ := z_ld_ok q1 HL
    obtain ⟨x, rfl⟩ := z_okJ_v o k
    exact lloadN P hd hl rfl (E _ _ HL (ZR.cons k HS))
  · obtain ⟨a, q1, q⟩ := z_bnd q
    obtain ⟨L1, q2, q⟩ := z_bnd q
    obtain ⟨rfl, rfl, rfl⟩ := z_inj3 q
    obtain ⟨e1, o⟩ := z_pop_ok q1
    subst e1
    obtain ⟨w, r, rfl, k, hs⟩ := HS
    obtain ⟨Lr, s1, s2⟩ := z_st_ok HL k q2
    obtain ⟨x, rfl⟩ := z_okJ_v o k
    exact lstoreN P hd s1 rfl (E _ _ s2 hs)
  · obtain ⟨v, q1, q⟩ := z_bnd q
    obtain ⟨rfl, rfl, rfl⟩ := z_inj3 q
    obtain ⟨o, w, hl, k⟩ := z_ld_ok q1 HL
    obtain ⟨x, rfl⟩ := z_okJ_v o k
    exact lload P hd hl rfl (E _ _ HL (ZR.cons k HS))
  · obtain ⟨a, q1, q⟩ := z_bnd q
    obtain ⟨L1, q2, q⟩ := z_bnd q
    obtain ⟨rfl, rfl, rfl⟩ := z_inj3 q
    obtain ⟨e1, o⟩ := z_pop_ok q1
    subst e1
    obtain ⟨w, r, rfl, k, hs⟩ := HS
    obtain ⟨Lr, s1, s2⟩ := z_st_ok HL k q2
    obtain ⟨x, rfl⟩ := z_okJ_v o k
    exact lstore P hd s1 rfl (E _ _ s2 hs)
  · obtain ⟨v, q1, q⟩ := z_bnd q
    obtain ⟨rfl, rfl, rfl⟩ := z_inj3 q
    obtain ⟨o, w, hl, k⟩ := z_ld_ok q1 HL
    obtain ⟨x, rfl⟩ := z_okD_v o k
    exact dloadN P hd hl rfl (E _ _ HL (ZR.cons k HS))
  · obtain ⟨a, q1, q⟩ := z_bnd q
    obtain ⟨L1, q2, q⟩ := z_bnd q
    obtain ⟨rfl, rfl, rfl⟩ := z_inj3 q
    obtain ⟨e1, o⟩ := z_pop_ok q1
    subst e1
    obtain ⟨w, r, rfl, k, hs⟩ := HS
    obtain ⟨Lr, s1, s2⟩ := z_st_ok HL k q2
    obtain ⟨x, rfl⟩ := z_okD_v o k
    exact dstoreN P hd s1 rfl (E _ _ s2 hs)
  · obtain ⟨v, q1, q⟩ := z_bnd q
    obtain ⟨rfl, rfl, rfl⟩ := z_inj3 q
    obtain ⟨o, w, hl, k⟩ := z_ld_ok q1 HL
    obtain ⟨x, rfl⟩ := z_okD_v o k
    exact dload P hd hl rfl (E _ _ HL (ZR.cons k HS))
  · obtain ⟨a, q1, q⟩ := z_bnd q
    obtain ⟨L1, q2, q⟩ := z_bnd q
    obtain ⟨rfl, rfl, rfl⟩ := z_inj3 q
    obtain ⟨e1, o⟩ := z_pop_ok q1
    subst e1
    obtain ⟨w, r, rfl, k, hs⟩ := HS
    obtain ⟨Lr, s1, s2⟩ := z_st_ok HL k q2
    obtain ⟨x, rfl⟩ := z_okD_v o k
    exact dstore P hd s1 rfl (E _ _ s2 hs)
  · obtain ⟨v, q1, q⟩ := z_bnd q
    obtain ⟨rfl, rfl, rfl⟩ := z_inj3 q
    obtain ⟨o, w, hl, k⟩ := z_ld_ok q1 HL
    exact aloadN P hd hl (z_okA_v o k) rfl (E _ _ HL (ZR.cons k HS))
  · obtain ⟨a, q1, q⟩ := z_bnd q
    obtain ⟨L1, q2, q⟩ := z_bnd q
    obtain ⟨rfl, rfl, rfl⟩ := z_inj3 q
    obtain ⟨e1, o⟩ := z_pop_ok q1
    subst e1
    obtain ⟨w, r, rfl, k, hs⟩ := HS
    obtain ⟨Lr, s1, s2⟩ := z_st_ok HL k q2
    exact astoreN P hd (z_okA_v o k) s1 rfl (E _ _ s2 hs)
  · obtain ⟨v, q1, q⟩ := z_bnd q
    obtain ⟨rfl, rfl, rfl⟩ := z_inj3 q
    obtain ⟨o, w, hl, k⟩ := z_ld_ok q1 HL
    exact aload P hd hl (z_okA_v o k) rfl (E _ _ HL (ZR.cons k HS))
  · obtain ⟨a, q1, q⟩ := z_bnd q
    obtain ⟨L1, q2, q⟩ := z_bnd q
    obtain ⟨rfl, rfl, rfl⟩ := z_inj3 q
    obtain ⟨e1, o⟩ := z_pop_ok q1
    subst e1
    obtain ⟨w, r, rfl, k, hs⟩ := HS
    obtain ⟨Lr, s1, s2⟩ := z_st_ok HL k q2
    exact astore P hd (z_okA_v o k) s1 rfl (E _ _ s2 hs)
  · obtain ⟨rfl, rfl, rfl⟩ := z_inj3 q
    exact iconst P hd rfl rfl (E _ _ HL (ZR.cons rfl HS))
  · obtain ⟨rfl, rfl, rfl⟩ := z_inj3 q
    exact bipush P hd rfl rfl (E _ _ HL (ZR.cons rfl HS))
  · obtain ⟨rfl, rfl, rfl⟩ := z_inj3 q
    exact lconst P hd rfl rfl (E _ _ HL (ZR.cons rfl HS))
  · rename_i k
    unfold z_dc at q
    split at q
    · rename_i k0
      obtain rfl : k = 0 := Fin.ext k0
      obtain ⟨rfl, rfl, rfl⟩ := z_inj3 q
      exact dconst0 P hd rfl (E _ _ HL (ZR.cons rfl HS))
    · rename_i k0
      obtain rfl : k = 1 := Fin.ext (by have := k.isLt; show k.val = 1; omega)
      obtain ⟨rfl, rfl, rfl⟩ := z_inj3 q
      exact dconst1 P hd rfl (E _ _ HL (ZR.cons rfl HS))
  · obtain ⟨y, q1, q⟩ := z_bnd q
    obtain ⟨x, q2, q⟩ := z_bnd q
    obtain ⟨rfl, rfl, rfl⟩ := z_inj3 q
    have e1 := z_popI_ok q1
    rw [z_popI_ok q2] at e1
    subst e1
    obtain ⟨_, _, rfl, hy, _, _, rfl, hx, hs⟩ := HS
    obtain rfl : _ = Value.int _ := hy
    obtain rfl : _ = Value.int _ := hx
    exact iadd P hd rfl (E _ _ HL (ZR.cons rfl hs))
  · obtain ⟨y, q1, q⟩ := z_bnd q
    obtain ⟨x, q2, q⟩ := z_bnd q
    obtain ⟨rfl, rfl, rfl⟩ := z_inj3 q
    have e1 := z_popI_ok q1
    rw [z_popI_ok q2] at e1
    subst e1
    obtain ⟨_, _, rfl, hy, _, _, rfl, hx, hs⟩ := HS
    obtain rfl : _ = Value.int _ := hy
    obtain rfl : _ = Value.int _ := hx
    exact isub P hd rfl (E _ _ HL (ZR.cons rfl hs))
  · obtain ⟨y, q1, q⟩ := z_bnd q
    obtain ⟨x, q2, q⟩ := z_bnd q
    obtain ⟨rfl, rfl, rfl⟩ := z_inj3 q
    have e1 := z_popI_ok q1
    rw [z_popI_ok q2] at e1
    subst e1
    obtain ⟨_, _, rfl, hy, _, _, rfl, hx, hs⟩ := HS
    obtain rfl : _ = Value.int _ := hy
    obtain rfl : _ = Value.int _ := hx
    exact imul P hd rfl (E _ _ HL (ZR.cons rfl hs))
  · obtain ⟨y, q1, q⟩ := z_bnd q
    obtain ⟨x, q2, q⟩ := z_bnd q
    obtain ⟨rfl, rfl, rfl⟩ := z_inj3 q
    have e1 := z_popJ_ok q1
    rw [z_popJ_ok q2] at e1
    subst e1
    obtain ⟨_, _, rfl, hy, _, _, rfl, hx, hs⟩ := HS
    obtain rfl : _ = Value.long _ := hy
    obtain rfl : _ = Value.long _ := hx
    exact ladd P hd rfl (E _ _ HL (ZR.cons rfl hs))
  · obtain ⟨y, q1, q⟩ := z_bnd q
    obtain ⟨x, q2, q⟩ := z_bnd q
    obtain ⟨rfl, rfl, rfl⟩ := z_inj3 q
    have e1 := z_popJ_ok q1
    rw [z_popJ_ok q2] at e1
    subst e1
    obtain ⟨_, _, rfl, hy, _, _, rfl, hx, hs⟩ := HS
    obtain rfl : _ = Value.long _ := hy
    obtain rfl : _ = Value.long _ := hx
    exact lcmp P hd rfl (E _ _ HL (ZR.cons rfl hs))
  · obtain ⟨y, q1, q⟩ := z_bnd q
    obtain ⟨x, q2, q⟩ := z_bnd q
    obtain ⟨hv, q⟩ := z_gdd q
    obtain ⟨rfl, rfl, rfl⟩ := z_inj3 q
    have e1 := z_popD_ok q1
    rw [z_popD_ok q2] at e1
    subst e1
    obtain ⟨_, _, rfl, hy, _, _, rfl, hx, hs⟩ := HS
    obtain rfl : _ = Value.double _ := hy
    obtain rfl : _ = Value.double _ := hx
    exact dadd P hd hv rfl (E _ _ HL (ZR.cons rfl hs))
  · obtain ⟨y, q1, q⟩ := z_bnd q
    obtain ⟨x, q2, q⟩ := z_bnd q
    obtain ⟨hv, q⟩ := z_gdd q
    obtain ⟨rfl, rfl, rfl⟩ := z_inj3 q
    have e1 := z_popD_ok q1
    rw [z_popD_ok q2] at e1
    subst e1
    obtain ⟨_, _, rfl, hy, _, _, rfl, hx, hs⟩ := HS
    obtain rfl : _ = Value.double _ := hy
    obtain rfl : _ = Value.double _ := hx
    exact dsub P hd hv rfl (E _ _ HL (ZR.cons rfl hs))
  · obtain ⟨y, q1, q⟩ := z_bnd q
    obtain ⟨x, q2, q⟩ := z_bnd q
    obtain ⟨hv, q⟩ := z_gdd q
    obtain ⟨rfl, rfl, rfl⟩ := z_inj3 q
    have e1 := z_popD_ok q1
    rw [z_popD_ok q2] at e1
    subst e1
    obtain ⟨_, _, rfl, hy, _, _, rfl, hx, hs⟩ := HS
    obtain rfl : _ = Value.double _ := hy
    obtain rfl : _ = Value.double _ := hx
    exact dmul P hd hv rfl (E _ _ HL (ZR.cons rfl hs))
  · obtain ⟨y, q1, q⟩ := z_bnd q
    obtain ⟨x, q2, q⟩ := z_bnd q
    obtain ⟨hv, q⟩ := z_gdd q
    obtain ⟨rfl, rfl, rfl⟩ := z_inj3 q
    have e1 := z_popD_ok q1
    rw [z_popD_ok q2] at e1
    subst e1
    obtain ⟨_, _, rfl, hy, _, _, rfl, hx, hs⟩ := HS
    obtain rfl : _ = Value.double _ := hy
    obtain rfl : _ = Value.double _ := hx
    exact ddiv P hd hv rfl (E _ _ HL (ZR.cons rfl hs))
  · obtain ⟨x, q1, q⟩ := z_bnd q
    obtain ⟨rfl, rfl, rfl⟩ := z_inj3 q
    have e1 := z_popD_ok q1
    subst e1
    obtain ⟨_, _, rfl, hx, hs⟩ := HS
    obtain rfl : _ = Value.double _ := hx
    exact dnegL P hd rfl rfl (E _ _ HL (ZR.cons rfl hs))
  · obtain ⟨y, q1, q⟩ := z_bnd q
    obtain ⟨x, q2, q⟩ := z_bnd q
    obtain ⟨z, q3, q⟩ := z_bnd q
    obtain ⟨rfl, rfl, rfl⟩ := z_inj3 q
    have e1 := (z_pop_ok q1).1
    rw [(z_pop_ok q2).1] at e1
    subst e1
    obtain ⟨_, _, rfl, hy, _, _, rfl, hx, hs⟩ := HS
    obtain ⟨a, b, rfl, rfl, hz⟩ := z_dcv_ok G q3 hx hy
    exact dcmp P hd hz rfl (E _ _ HL (ZR.cons rfl hs))
  · obtain ⟨x, q1, q⟩ := z_bnd q
    obtain ⟨v, q2, q⟩ := z_bnd q
    obtain ⟨rfl, rfl, rfl⟩ := z_inj3 q
    have e1 := (z_pop_ok q1).1
    subst e1
    obtain ⟨_, _, rfl, hx, hs⟩ := HS
    obtain ⟨a, rfl, k⟩ := z_i2d_ok q2 hx
    exact i2d P hd rfl (E _ _ HL (ZR.cons k hs))
  · rename_i j k
    obtain ⟨x, q1, q⟩ := z_bnd q
    obtain ⟨L1, q2, q⟩ := z_bnd q
    obtain ⟨rfl, rfl, rfl⟩ := z_inj3 q
    have hl := z_ldI_ok q1 HL
    obtain ⟨Lr, s1, s2⟩ := z_st_ok HL (show ZV ι ρ (.int (x + Int32.ofInt k)) (.int (x + Int32.ofInt k)) from rfl) q2
    exact iinc P hd hl rfl s1 rfl (E _ _ s2 HS)
  · obtain ⟨x, qx, q⟩ := z_bnd q
    obtain ⟨rfl, rfl, rfl⟩ := z_inj3 q
    obtain ⟨ex, ox⟩ := z_pop_ok qx
    subst ex
    obtain ⟨wx, rx, rfl, kx, hs⟩ := HS
    exact dup P hd (z_ok1_v ox kx) rfl (E _ _ HL (ZR.cons kx (ZR.cons kx hs)))
  · obtain ⟨x, qx, q⟩ := z_bnd q
    obtain ⟨y, qy, q⟩ := z_bnd q
    obtain ⟨rfl, rfl, rfl⟩ := z_inj3 q
    obtain ⟨ex, ox⟩ := z_pop_ok qx
    obtain ⟨ey, oy⟩ := z_pop_ok qy
    rw [ey] at ex
    subst ex
    obtain ⟨wx, rx, rfl, kx, wy, ry, rfl, ky, hs⟩ := HS
    exact dupD P hd (z_ok1_v ox kx) (z_ok1_v oy ky) rfl (E _ _ HL (ZR.cons kx (ZR.cons ky (ZR.cons kx (ZR.cons ky hs)))))
  · obtain ⟨x, qx, q⟩ := z_bnd q
    obtain ⟨y, qy, q⟩ := z_bnd q
    obtain ⟨rfl, rfl, rfl⟩ := z_inj3 q
    obtain ⟨ex, ox⟩ := z_pop_ok qx
    obtain ⟨ey, oy⟩ := z_pop_ok qy
    rw [ey] at ex
    subst ex
    obtain ⟨wx, rx, rfl, kx, wy, ry, rfl, ky, hs⟩ := HS
    exact dupX1 P hd (z_ok1_v ox kx) (z_ok1_v oy ky) rfl (E _ _ HL (ZR.cons kx (ZR.cons ky (ZR.cons kx hs))))
  · obtain ⟨x, qx, q⟩ := z_bnd q
    obtain ⟨y, qy, q⟩ := z_bnd q
    obtain ⟨z, qz, q⟩ := z_bnd q
    obtain ⟨rfl, rfl, rfl⟩ := z_inj3 q
    obtain ⟨ex, ox⟩ := z_pop_ok qx
    obtain ⟨ey, oy⟩ := z_pop_ok qy
    obtain ⟨ez, oz⟩ := z_pop_ok qz
    rw [ez] at ey
    rw [ey] at ex
    subst ex
    obtain ⟨wx, rx, rfl, kx, wy, ry, rfl, ky, wz, rz, rfl, kz, hs⟩ := HS
    exact dupX2 P hd (z_ok1_v ox kx) (z_ok1_v oy ky) (z_ok1_v oz kz) rfl (E _ _ HL (ZR.cons kx (ZR.cons ky (ZR.cons kz (ZR.cons kx hs)))))
  · obtain ⟨x, qx, q⟩ := z_bnd q
    obtain ⟨rfl, rfl, rfl⟩ := z_inj3 q
    obtain ⟨ex, ox⟩ := z_pop_ok qx
    subst ex
    obtain ⟨wx, rx, rfl, kx, hs⟩ := HS
    exact Jvm.Own.popV P hd (z_ok1_v ox kx) rfl (E _ _ HL hs)
  · obtain ⟨t, q1, q⟩ := z_bnd q
    obtain ⟨rfl, rfl, rfl⟩ := z_inj3 q
    exact Jvm.Own.goto P hd (z_jmp_ok q1) (E _ _ HL HS)
  · obtain ⟨y, q1, q⟩ := z_bnd q
    obtain ⟨x, q2, q⟩ := z_bnd q
    obtain ⟨t, q3, q⟩ := z_bnd q
    obtain ⟨rfl, rfl, rfl⟩ := z_inj3 q
    have e1 := z_popI_ok q1
    rw [z_popI_ok q2] at e1
    subst e1
    obtain ⟨_, _, rfl, hy, _, _, rfl, hx, hs⟩ := HS
    obtain rfl : _ = Value.int _ := hy
    obtain rfl : _ = Value.int _ := hx
    have E' := E _ _ HL hs
    refine icmpB P hd (z_jmp_ok q3) rfl (fun hc => ?_) (fun hc => ?_)
    · rw [if_pos hc] at E'; exact E'
    · rw [if_neg (by rw [hc]; exact Bool.false_ne_true)] at E'; exact E'
  · obtain ⟨x, q1, q⟩ := z_bnd q
    obtain ⟨k, q2, q⟩ := z_bnd q
    obtain ⟨t, q3, q⟩ := z_bnd q
    obtain ⟨rfl, rfl, rfl⟩ := z_inj3 q
    have e1 := (z_pop_ok q1).1
    subst e1
    obtain ⟨_, _, rfl, hx, hs⟩ := HS
    obtain ⟨a, rfl, hk⟩ := z_icv_ok G q2 hx
    have E' := E _ _ HL hs
    refine ifB P hd (z_jmp_ok q3) rfl (fun hc => ?_) (fun hc => ?_)
    · rw [if_pos ((hk _).symm.trans hc)] at E'; exact E'
    · rw [if_neg (by rw [← hk, hc]; exact Bool.false_ne_true)] at E'; exact E'
  · cases q
end Pure


abbrev z_DS : String := "com/example/hertzbid/hertzbid/mechanisms/DualSimplex"
abbrev ZC := Nat × Bool × List Value
def z_fT : List (String × String) := [("columns", "I"), ("rows", "I"), ("size", "I"), ("updates", "I"), ("rowColumns", "[[I"), ("rowCoefficients", "[[D"), ("bound", "[D"), ("slack", "[D"), ("rowPlace", "[I"), ("tight", "[I"), ("basic", "[I"), ("inverse", "[[D"), ("price", "[D"), ("pivotSlack", "[D"), ("cost", "[D"), ("lower", "[D"), ("upper", "[D"), ("value", "[D"), ("columnPlace", "[I"), ("columnRows", "[[I"), ("columnCoefficients", "[[D"), ("columnLengths", "[I"), ("reduced", "[D"), ("pivotRow", "[D")]
def z_fn (f : Nat) : String := (z_fT.getD f ("", "")).1
def z_fd (f : Nat) : String := (z_fT.getD f ("", "")).2
def z_in : List FieldType := [.int, .int, .int, .int, .array .int, .array .double, .double, .double, .int, .int, .int, .array .double, .double, .double, .double, .double, .double, .double, .int, .array .int, .array .double, .int, .double, .double]
def z_fty (f : Nat) : FieldType := if f < 4 then .int else .array (z_in.getD f .int)
def z_ty : Nat → FieldType
  | 1 => .int
  | 2 => .double
  | 3 => .array .int
  | _ => .array .double
theorem z_parse : ∀ f, f < 24 → parseFieldDescriptor (z_fd f) = some (z_fty f) := by decide +kernel
theorem z_names : ∀ f, f < 24 → ∀ g, g < 24 → f ≠ g → z_fn f ≠ z_fn g := by decide +kernel
def z_fx (Z : State) (h : Heap) (a : Addr) (t n : Nat) (g : Nat → Value) : Prop :=
  match t with
  | 1 => Exa Z h a "[I"
  | 2 => Exa Z h a "[D"
  | 3 => ARA Z h a .int "[I" n g
  | _ => ARA Z h a .double "[D" n g
/-- what a cell of the store says of the heap -/
def ZK (ι : Nat → Int32) (Z : State) (ρ : List Addr) (h : Heap) (a : Addr) (c : ZC) : Prop :=
  if c.1 = 0 then Exa Z h a z_DS ∧ c.2.2.length = 24 ∧ ∀ (f : Nat) (v : Value), c.2.2[f]? = some v → ∃ w, ZV ι ρ v w ∧ Fld Z h a z_DS (z_fn f) (z_fd f) w
  else ∃ g : Nat → Value, AR Z h a (z_ty c.1) c.2.2.length g ∧ (∀ (i : Nat) (v : Value), c.2.2[i]? = some v → ZV ι ρ v (g i)) ∧ (c.2.1 = true → z_fx Z h a c.1 c.2.2.length g)
def ZI (ι : Nat → Int32) (Z : State) (n0 : Nat) (h : Heap) (ρ : List Addr) (σ : List ZC) : Prop :=
  Old Z n0 h ∧ ρ.length = σ.length ∧ (∀ (i j : Nat) (a : Addr), ρ[i]? = some a → ρ[j]? = some a → i = j) ∧ (∀ (i : Nat) (a : Addr), ρ[i]? = some a → n0 ≤ a ∧ a < h.size) ∧ ∀ (i : Nat) (a : Addr) (c : ZC), ρ[i]? = some a → σ[i]? = some c → ZK ι Z ρ h a c
def z_look (σ : List ZC) (k : Nat) : Option ZC := if k = 1000000 then none else σ[k]?
section Sto
variable {ι : Nat → Int32} {Z : State} {n0 : Nat} {h h' : Heap} {ρ t : List Addr} {σ : List ZC} {a : Addr} {c c' : ZC} {k : Nat} {v w : Value} {g : Nat → Value} {n u : Nat}
theorem z_exa {C : String} (q : ∀ x, h[a]? = some x → h'[a]? = some x) (F : Exa Z h a C) : Exa Z h' a C := by obtain ⟨cell, k, h1, r⟩ := F; exact ⟨cell, k, q _ h1, r⟩
theorem z_fld {C n d : String} (q : ∀ x, h[a]? = some x → h'[a]? = some x) (F : Fld Z h a C n d w) : Fld Z h' a C n d w := by obtain ⟨cell, cf, k, i, f, h1, r⟩ := F; exact ⟨cell, cf, k, i, f, q _ h1, r⟩
theorem z_ar {ty : FieldType} (q : ∀ x, h[a]? = some x → h'[a]? = some x) (A : AR Z h a ty n g) : AR Z h' a ty n g := by obtain ⟨cl, B, r⟩ := A; exact ⟨cl, ⟨q _ B.1, B.2⟩, r⟩
theorem z_ara {ty : FieldType} {C : String} (q : ∀ x, h[a]? = some x → h'[a]? = some x) (A : ARA Z h a ty C n g) : ARA Z h' a ty C n g := by obtain ⟨cl, B, r⟩ := A; exact ⟨cl, ⟨q _ B.1, B.2⟩, r⟩
theorem z_fx_stay (q : ∀ x, h[a]? = some x → h'[a]? = some x) : ∀ {t : Nat}, z_fx Z h a t n g → z_fx Z h' a t n g
  | 0, F => z_ara q F
  | 1, F => z_exa q F
  | 2, F => z_exa q F
  | 3, F => z_ara q F
  | _ + 4, F => z_ara q F
theorem z_fx_wr (W : Wr h h' a u w) : ∀ {t : Nat}, z_fx Z h a t n g → z_fx Z h' a t n (ovr g u w)
  | 0, F => ARA.set F W
  | 1, F => Exa.wr W F
  | 2, F => Exa.wr W F
  | 3, F => ARA.set F W
  | _ + 4, F => ARA.set F W
theorem ZK.obj (C : ZK ι Z ρ h a c) (t0 : c.1 = 0) : Exa Z h a z_DS ∧ c.2.2.length = 24 ∧ ∀ (f : Nat) (v : Value), c.2.2[f]? = some v → ∃ w, ZV ι ρ v w ∧ Fld Z h a z_DS (z_fn f) (z_fd f) w := by
  unfold ZK at C; rw [if_pos t0] at C; exact C
theorem ZK.arr (C : ZK ι Z ρ h a c) (t0 : c.1 ≠ 0) : ∃ g : Nat → Value, AR Z h a (z_ty c.1) c.2.2.length g ∧ (∀ (i : Nat) (v : Value), c.2.2[i]? = some v → ZV ι ρ v (g i)) ∧ (c.2.1 = true → z_fx Z h a c.1 c.2.2.length g) := by
  unfold ZK at C; rw [if_neg t0] at C; exact C
theorem ZK.mkO (t0 : c.1 = 0) (C : Exa Z h a z_DS ∧ c.2.2.length = 24 ∧ ∀ (f : Nat) (v : Value), c.2.2[f]? = some v → ∃ w, ZV ι ρ v w ∧ Fld Z h a z_DS (z_fn f) (z_fd f) w) : ZK ι Z ρ h a c := by
  unfold ZK; rw [if_pos t0]; exact C
theorem ZK.mkA (t0 : c.1 ≠ 0) (C : ∃ g : Nat → Value, AR Z h a (z_ty c.1) c.2.2.length g ∧ (∀ (i : Nat) (v : Value), c.2.2[i]? = some v → ZV ι ρ v (g i)) ∧ (c.2.1 = true → z_fx Z h a c.1 c.2.2.length g)) : ZK ι Z ρ h a c := by
  unfold ZK; rw [if_neg t0]; exact C
theorem ZK.stay (C : ZK ι Z ρ h a c) (q : ∀ x, h[a]? = some x → h'[a]? = some x) : ZK ι Z ρ h' a c := by
  by_cases t0 : c.1 = 0
  · obtain ⟨E, ln, F⟩ := C.obj t0
    exact ZK.mkO t0 ⟨z_exa q E, ln, fun f v e => by obtain ⟨w, k, G⟩ := F f v e; exact ⟨w, k, z_fld q G⟩⟩
  · obtain ⟨g, A, K, X⟩ := C.arr t0
    exact ZK.mkA t0 ⟨g, z_ar q A, K, fun e => z_fx_stay q (X e)⟩
theorem ZK.mono (C : ZK ι Z ρ h a c) : ZK ι Z (ρ ++ t) h a c := by
  by_cases t0 : c.1 = 0
  · obtain ⟨E, ln, F⟩ := C.obj t0
    exact ZK.mkO t0 ⟨E, ln, fun f v e => by obtain ⟨w, k, G⟩ := F f v e; exact ⟨w, k.mono, G⟩⟩
  · obtain ⟨g, A, K, X⟩ := C.arr t0
    exact ZK.mkA t0 ⟨g, A, fun i v e => (K i v e).mono, X⟩
theorem ZK.lt (C : ZK ι Z ρ h a c) : a < h.size := by
  by_cases t0 : c.1 = 0
  · exact (C.obj t0).1.lt
  · obtain ⟨g, A, -⟩ := C.arr t0; exact A.lt
theorem ZI.at {x : Addr} (I : ZI ι Z n0 h ρ σ) (e : z_look σ k = some c) (hx : ρ[k]? = some x ∨ k = 1000000) : ZK ι Z ρ h x c ∧ n0 ≤ x ∧ ρ[k]? = some x := by
  unfold z_look at e
  split at e
  · cases e
  · rename_i ne
    have hr := hx.resolve_right ne
    exact ⟨I.2.2.2.2 _ _ _ hr e, (I.2.2.2.1 _ _ hr).1, hr⟩
theorem z_set_get {α : Type} {l : List α} {i j : Nat} {x y : α} (e : (l.set i x)[j]? = some y) : (j = i ∧ y = x) ∨ (j ≠ i ∧ l[j]? = some y) := by
  by_cases q : j = i
  · subst q
    have lt : j < l.length := by have := (List.getElem?_eq_some_iff.mp e).1; simpa using this
    have e2 : (l.set j x)[j]? = some x := by simp [lt]
    rw [e2] at e; exact Or.inl ⟨rfl, (Option.some.inj e).symm⟩
  · rw [List.getElem?_set_ne (Ne.symm q)] at e; exact Or.inr ⟨q, e⟩
theorem ZI.upd (I : ZI ι Z n0 h ρ σ) (hk : ρ[k]? = some a) (O : Old Z n0 h') (sz : h.size ≤ h'.size) (q : ∀ y cc, y ≠ a → h[y]? = some cc → h'[y]? = some cc) (C : ZK ι Z ρ h' a c') : ZI ι Z n0 h' ρ (σ.set k c') := by
  obtain ⟨_, i2, i3, i4, i5⟩ := I
  refine ⟨O, by simp [i2], i3, fun i b e => ⟨(i4 i b e).1, Nat.lt_of_lt_of_le (i4 i b e).2 sz⟩, fun i b c e e2 => ?_⟩
  rcases z_set_get e2 with ⟨rfl, rfl⟩ | ⟨ne, e2⟩
  · rw [hk] at e; obtain rfl := Option.some.inj e; exact C
  · exact ZK.stay (i5 i b c e e2) (fun x hx => q b x (fun w => ne (i3 i k a (w ▸ e) hk)) hx)
theorem z_app_get {α : Type} {l r : List α} {i : Nat} {x : α} (e : (l ++ r)[i]? = some x) : l[i]? = some x ∨ (l.length ≤ i ∧ r[i - l.length]? = some x) := by
  by_cases z : i < l.length
  · rw [List.getElem?_append_left z] at e; exact Or.inl e
  · rw [List.getElem?_append_right (by omega)] at e; exact Or.inr ⟨by omega, e⟩
theorem z_lt {α : Type} {l : List α} {i : Nat} {x : α} (e : l[i]? = some x) : i < l.length := (List.getElem?_eq_some_iff.mp e).1
theorem ZI.app (I : ZI ι Z n0 h ρ σ) (X : Ext h h') {as : List Addr} {cs : List ZC} (hl : as.length = cs.length) (fr : ∀ (i : Nat) (x : Addr), as[i]? = some x → h.size ≤ x ∧ x < h'.size) (inj : ∀ (i j : Nat) (x : Addr), as[i]? = some x → as[j]? = some x → i = j) (C : ∀ (i : Nat) (x : Addr) (c : ZC), as[i]? = some x → cs[i]? = some c → ZK ι Z (ρ ++ as) h' x c) : ZI ι Z n0 h' (ρ ++ as) (σ ++ cs) := by
  obtain ⟨i1, i2, i3, i4, i5⟩ := I
  have nn : n0 ≤ h.size := i1.1 ▸ i1.2.1
  refine ⟨i1.ext X, by simp [i2, hl], ?_, ?_, ?_⟩
  · intro i j b e1 e2
    rcases z_app_get e1 with f1 | ⟨g1, f1⟩ <;> rcases z_app_get e2 with f2 | ⟨g2, f2⟩
    · exact i3 i j b f1 f2
    · exact absurd (Nat.lt_of_lt_of_le (i4 _ _ f1).2 (fr _ _ f2).1) (Nat.lt_irrefl _)
    · exact absurd (Nat.lt_of_lt_of_le (i4 _ _ f2).2 (fr _ _ f1).1) (Nat.lt_irrefl _)
    · have := inj _ _ _ f1 f2; omega
  · intro i b e1
    rcases z_app_get e1 with f1 | ⟨g1, f1⟩
    · exact ⟨(i4 _ _ f1).1, Nat.lt_of_lt_of_le (i4 _ _ f1).2 X.1⟩
    · exact ⟨Nat.le_trans nn (fr _ _ f1).1, (fr _ _ f1).2⟩
  · intro i b c e1 e2
    rcases z_app_get e1 with f1 | ⟨g1, f1⟩ <;> rcases z_app_get e2 with f2 | ⟨g2, f2⟩
    · exact ((i5 i b c f1 f2).stay (X.2 b)).mono
    · have := z_lt f1; omega
    · have := z_lt f2; omega
    · rw [← i2] at f2; exact C _ _ _ f1 f2
theorem ZI.push (I : ZI ι Z n0 h ρ σ) (X : Ext h h') (ea : a = h.size) (C : ZK ι Z (ρ ++ [a]) h' a c) : ZI ι Z n0 h' (ρ ++ [a]) (σ ++ [c]) := by
  have o : ∀ {α : Type} {y x : α} {i : Nat}, [y][i]? = some x → i = 0 ∧ x = y := by
    intro α y x i e
    have := z_lt e
    have i0 : i = 0 := by simpa using this
    subst i0; exact ⟨rfl, (Option.some.inj e).symm⟩
  refine I.app X rfl (fun i x e => ?_) (fun i j x e1 e2 => ?_) (fun i x d e1 e2 => ?_)
  · obtain ⟨-, rfl⟩ := o e; exact ⟨Nat.le_of_eq ea.symm, C.lt⟩
  · rw [(o e1).1, (o e2).1]
  · obtain ⟨-, rfl⟩ := o e1; obtain ⟨-, rfl⟩ := o e2; exact C
theorem ZI.last (I : ZI ι Z n0 h ρ σ) {as : List Addr} : ZV ι (ρ ++ a :: as) (.ref σ.length) (.ref a) := ⟨a, rfl, Or.inl (by rw [← I.2.1]; simp)⟩
theorem z_wr_stay {x : Cell} (W : Wr h h' a u w) {y : Addr} (ne : y ≠ a) (e : h[y]? = some x) : h'[y]? = some x := by
  obtain ⟨cell, _, _, _, rfl⟩ := W; rw [Array.getElem?_setIfInBounds_ne (Ne.symm ne)]; exact e
theorem ZK.wr (C : ZK ι Z ρ h a c) (t0 : c.1 ≠ 0) (W : Wr h h' a u w) (k : ZV ι ρ v w) : ZK ι Z ρ h' a (c.1, c.2.1, c.2.2.set u v) := by
  obtain ⟨g, A, K, X⟩ := C.arr t0
  refine ZK.mkA t0 ⟨ovr g u w, ?_, ?_, ?_⟩
  · show AR Z h' a (z_ty c.1) (c.2.2.set u v).length _
    rw [List.length_set]; exact A.set W
  · intro i v' e
    rcases z_set_get e with ⟨rfl, rfl⟩ | ⟨ne, e⟩
    · rw [ovr_at]; exact k
    · rw [ovr_ne _ _ ne]; exact K i v' e
  · intro e
    show z_fx Z h' a c.1 (c.2.2.set u v).length _
    rw [List.length_set]; exact z_fx_wr W (X e)
theorem ZI.wr (I : ZI ι Z n0 h ρ σ) (hk : ρ[k]? = some a) (lo : n0 ≤ a) (W : Wr h h' a u w) (C : ZK ι Z ρ h' a c') : ZI ι Z n0 h' ρ (σ.set k c') :=
  I.upd hk (I.1.wr W lo) (Nat.le_of_eq W.size.symm) (fun _ _ ne e => z_wr_stay W ne e) C
theorem ZK.ofRep {nn : Nat} {d w : Value} {t : Nat} (t0 : t ≠ 0) (A : AR Z h a (z_ty t) nn (fun _ => w)) (kd : ZV ι ρ d w) (X : z_fx Z h a t nn (fun _ => w)) : ZK ι Z ρ h a (t, true, List.replicate nn d) := by
  refine ZK.mkA t0 ⟨fun _ => w, ?_, ?_, ?_⟩
  · show AR Z h a (z_ty t) (List.replicate nn d).length _; rw [List.length_replicate]; exact A
  · intro i v e; have := List.mem_of_getElem? e; rw [List.eq_of_mem_replicate this]; exact kd
  · intro _; show z_fx Z h a t (List.replicate nn d).length _; rw [List.length_replicate]; exact X
theorem ZK.ofRep' {nn : Nat} {d w : Value} {t : Nat} (t0 : t ≠ 0) (A : AR Z h a (z_ty t) nn (fun _ => w)) (kd : ZV ι ρ d w) : ZK ι Z ρ h a (t, false, List.replicate nn d) := by
  refine ZK.mkA t0 ⟨fun _ => w, ?_, ?_, ?_⟩
  · show AR Z h a (z_ty t) (List.replicate nn d).length _; rw [List.length_replicate]; exact A
  · intro i v e; have := List.mem_of_getElem? e; rw [List.eq_of_mem_replicate this]; exact kd
  · intro e; cases e
end Sto

def z_fl : Nat → Option Nat
  | 9 => some 4
  | 17 => some 5
  | 21 => some 6
  | 24 => some 7
  | 27 => some 8
  | 30 => some 9
  | 33 => some 10
  | 37 => some 11
  | 40 => some 12
  | 43 => some 13
  | 46 => some 0
  | 54 => some 14
  | 57 => some 15
  | 60 => some 16
  | 63 => some 17
  | 66 => some 18
  | 76 => some 19
  | 79 => some 20
  | 82 => some 21
  | 85 => some 22
  | 88 => some 23
  | 91 => some 1
  | 127 => some 2
  | 183 => some 3
  | _ => none
theorem z_fl_ok {Z : State} {a0 : Array Value} (hw : ∀ d ∈ tables_1, d.before a0 Z = true) {own : String} {i f : Nat} (q : z_fl i = some f) (ho : own = z_DS) : (Cond.fieldLink own i z_DS (z_fn f) (z_fd f)).before a0 Z = true := by
  subst ho
  unfold z_fl at q
  split at q
  · cases q; exact hw _ (List.mem_of_getElem? (i := 15) rfl)
  · cases q; exact hw _ (List.mem_of_getElem? (i := 19) rfl)
  · cases q; exact hw _ (List.mem_of_getElem? (i := 21) rfl)
  · cases q; exact hw _ (List.mem_of_getElem? (i := 23) rfl)
  · cases q; exact hw _ (List.mem_of_getElem? (i := 25) rfl)
  · cases q; exact hw _ (List.mem_of_getElem? (i := 27) rfl)
  · cases q; exact hw _ (List.mem_of_getElem? (i := 29) rfl)
  · cases q; exact hw _ (List.mem_of_getElem? (i := 32) rfl)
  · cases q; exact hw _ (List.mem_of_getElem? (i := 34) rfl)
  · cases q; exact hw _ (List.mem_of_getElem? (i := 36) rfl)
  · cases q; exact hw _ (List.mem_of_getElem? (i := 38) rfl)
  · cases q; exact hw _ (List.mem_of_getElem? (i := 48) rfl)
  · cases q; exact hw _ (List.mem_of_getElem? (i := 50) rfl)
  · cases q; exact hw _ (List.mem_of_getElem? (i := 52) rfl)
  · cases q; exact hw _ (List.mem_of_getElem? (i := 54) rfl)
  · cases q; exact hw _ (List.mem_of_getElem? (i := 56) rfl)
  · cases q; exact hw _ (List.mem_of_getElem? (i := 63) rfl)
  · cases q; exact hw _ (List.mem_of_getElem? (i := 65) rfl)
  · cases q; exact hw _ (List.mem_of_getElem? (i := 67) rfl)
  · cases q; exact hw _ (List.mem_of_getElem? (i := 69) rfl)
  · cases q; exact hw _ (List.mem_of_getElem? (i := 71) rfl)
  · cases q; exact hw _ (List.mem_of_getElem? (i := 100) rfl)
  · cases q; exact hw _ (List.mem_of_getElem? (i := 121) rfl)
  · cases q; exact hw _ (List.mem_of_getElem? (i := 197) rfl)
  · cases q
def z_fin (f : Nat) : Bool := ([true, false, false, false, false, false, false, false, false, false, false, false, false, false, true, true, true, true, true, false, false, false, true, true] : List Bool).getD f false
theorem z_layA {Z : State} {a0 : Array Value} (hw : ∀ d ∈ tables_1, d.before a0 Z = true) : ∀ f, f < 24 → (z_fin f = false ∧ (Cond.lays z_DS z_DS (z_fn f) (z_fd f)).before a0 Z = true) ∨ (z_fin f = true ∧ (Cond.laysFinal z_DS z_DS (z_fn f) (z_fd f)).before a0 Z = true)
  | 0, _ => Or.inr ⟨rfl, (hw _ (List.mem_of_getElem? (i := 39) rfl))⟩
  | 1, _ => Or.inl ⟨rfl, (hw _ (List.mem_of_getElem? (i := 101) rfl))⟩
  | 2, _ => Or.inl ⟨rfl, (hw _ (List.mem_of_getElem? (i := 122) rfl))⟩
  | 3, _ => Or.inl ⟨rfl, (hw _ (List.mem_of_getElem? (i := 198) rfl))⟩
  | 4, _ => Or.inl ⟨rfl, (hw _ (List.mem_of_getElem? (i := 16) rfl))⟩
  | 5, _ => Or.inl ⟨rfl, (hw _ (List.mem_of_getElem? (i := 20) rfl))⟩
  | 6, _ => Or.inl ⟨rfl, (hw _ (List.mem_of_getElem? (i := 22) rfl))⟩
  | 7, _ => Or.inl ⟨rfl, (hw _ (List.mem_of_getElem? (i := 24) rfl))⟩
  | 8, _ => Or.inl ⟨rfl, (hw _ (List.mem_of_getElem? (i := 26) rfl))⟩
  | 9, _ => Or.inl ⟨rfl, (hw _ (List.mem_of_getElem? (i := 28) rfl))⟩
  | 10, _ => Or.inl ⟨rfl, (hw _ (List.mem_of_getElem? (i := 30) rfl))⟩
  | 11, _ => Or.inl ⟨rfl, (hw _ (List.mem_of_getElem? (i := 33) rfl))⟩
  | 12, _ => Or.inl ⟨rfl, (hw _ (List.mem_of_getElem? (i := 35) rfl))⟩
  | 13, _ => Or.inl ⟨rfl, (hw _ (List.mem_of_getElem? (i := 37) rfl))⟩
  | 14, _ => Or.inr ⟨rfl, (hw _ (List.mem_of_getElem? (i := 49) rfl))⟩
  | 15, _ => Or.inr ⟨rfl, (hw _ (List.mem_of_getElem? (i := 51) rfl))⟩
  | 16, _ => Or.inr ⟨rfl, (hw _ (List.mem_of_getElem? (i := 53) rfl))⟩
  | 17, _ => Or.inr ⟨rfl, (hw _ (List.mem_of_getElem? (i := 55) rfl))⟩
  | 18, _ => Or.inr ⟨rfl, (hw _ (List.mem_of_getElem? (i := 57) rfl))⟩
  | 19, _ => Or.inl ⟨rfl, (hw _ (List.mem_of_getElem? (i := 64) rfl))⟩
  | 20, _ => Or.inl ⟨rfl, (hw _ (List.mem_of_getElem? (i := 66) rfl))⟩
  | 21, _ => Or.inl ⟨rfl, (hw _ (List.mem_of_getElem? (i := 68) rfl))⟩
  | 22, _ => Or.inr ⟨rfl, (hw _ (List.mem_of_getElem? (i := 70) rfl))⟩
  | 23, _ => Or.inr ⟨rfl, (hw _ (List.mem_of_getElem? (i := 72) rfl))⟩
  | n + 24, h => absurd h (by omega)
theorem z_laid {Z : State} {a0 : Array Value} (hw : ∀ d ∈ tables_1, d.before a0 Z = true) (f : Nat) (hf : f < 24) : Laid Z a0 z_DS z_DS (z_fn f) (z_fd f) := (z_layA hw f hf).imp (fun h => h.2) (fun h => h.2)
def z_okF (f : Nat) : Value → Bool
  | .int _ => decide (f < 4)
  | .ref _ => decide (4 ≤ f)
  | _ => false
theorem z_put {ι : Nat → Int32} {ρ : List Addr} {f : Nat} {v w : Value} (o : z_okF f v = true) (k : ZV ι ρ v w) : narrow (z_fty f) w = w ∧ fits (z_fty f) w = true := by
  cases v with
  | int x =>
    have hf : f < 4 := of_decide_eq_true o
    obtain rfl : w = _ := k
    unfold z_fty; rw [if_pos hf]; exact ⟨rfl, rfl⟩
  | ref x =>
    have hf : 4 ≤ f := of_decide_eq_true o
    obtain ⟨y, rfl, -⟩ := k
    unfold z_fty; rw [if_neg (by omega)]; exact ⟨rfl, rfl⟩
  | _ => cases o
def z_okP : Value → Bool
  | .int _ => true
  | .ref _ => true
  | _ => false
def o_gf (ix : Nat) (S : List Value) (σ : List ZC) : Option (List Value × List ZC × Nat × Nat) := (z_popR S).bind fun a => (z_look σ a.1).bind fun c => z_gd (c.1 = 0) ((z_fl ix).bind fun f => (c.2.2[f]?).bind fun v => some (v :: a.2, σ, 0, 0))
def o_pf (b ix : Nat) (S : List Value) (σ : List ZC) : Option (List Value × List ZC × Nat × Nat) := (z_pop z_okP S).bind fun a => (z_popR a.2).bind fun r => (z_look σ r.1).bind fun c => z_gd (c.1 = 0) ((z_fl ix).bind fun f => z_gd (f < 24 ∧ (z_fin f = false ∨ b = 1) ∧ z_okF f a.1 = true) (some (r.2, σ.set r.1 (0, c.2.1, c.2.2.set f a.1), 0, 0)))
def o_ald (t1 t2 : Nat) (ok : Value → Bool) (S : List Value) (σ : List ZC) : Option (List Value × List ZC × Nat × Nat) := (z_popI S).bind fun a => (z_popR a.2).bind fun r => (z_look σ r.1).bind fun c => z_gd (c.1 = t1 ∨ c.1 = t2) ((z_ix a.1 c.2.2.length).bind fun u => (c.2.2[u]?).bind fun v => z_gd (ok v = true) (some (v :: r.2, σ, 0, 0)))
def o_ast (t : Nat) (ok : Value → Bool) (S : List Value) (σ : List ZC) : Option (List Value × List ZC × Nat × Nat) := (z_pop ok S).bind fun a => (z_popI a.2).bind fun j => (z_popR j.2).bind fun r => (z_look σ r.1).bind fun c => z_gd (c.1 = t) ((z_ix j.1 c.2.2.length).bind fun u => some (r.2, σ.set r.1 (c.1, c.2.1, c.2.2.set u a.1), 0, 0))
def o_aas (S : List Value) (σ : List ZC) : Option (List Value × List ZC × Nat × Nat) := (z_popR S).bind fun a => (z_popI a.2).bind fun j => (z_popR j.2).bind fun r => (z_look σ r.1).bind fun c => (z_look σ a.1).bind fun d => z_gd ((c.1 = 3 ∧ d.1 = 1 ∨ c.1 = 4 ∧ d.1 = 2) ∧ c.2.1 = true ∧ d.2.1 = true) ((z_ix j.1 c.2.2.length).bind fun u => some (r.2, σ.set r.1 (c.1, c.2.1, c.2.2.set u (.ref a.1)), 0, 0))
def o_len (S : List Value) (σ : List ZC) : Option (List Value × List ZC × Nat × Nat) := (z_popR S).bind fun r => (z_look σ r.1).bind fun c => z_gd (c.1 ≠ 0) (some (.int (Int32.ofNat c.2.2.length) :: r.2, σ, 0, 0))
def o_new (t : Nat) (d : Value) (S : List Value) (σ : List ZC) : Option (List Value × List ZC × Nat × Nat) := (z_popI S).bind fun a => (z_ix a.1 1000).bind fun k => some (.ref σ.length :: a.2, σ ++ [(t, true, List.replicate k d)], 1, k)
def o_nw (ty : ArrayType) (S : List Value) (σ : List ZC) : Option (List Value × List ZC × Nat × Nat) :=
  match ty with
  | .int => o_new 1 (.int 0) S σ
  | .double => o_new 2 (.double 0) S σ
  | _ => none
def o_grid (t : Nat) (d : Value) (S : List Value) (σ : List ZC) : Option (List Value × List ZC × Nat × Nat) := (z_popI S).bind fun y => (z_popI y.2).bind fun x => (z_ix y.1 1000).bind fun cap => (z_ix x.1 100).bind fun N => some (.ref σ.length :: x.2, σ ++ ((t + 2, false, (List.range N).map fun j => .ref (σ.length + 1 + j)) :: List.replicate N (t, false, List.replicate cap d)), 1 + N, N + N * cap)
def o_cast (ix : Nat) (S : List Value) (σ : List ZC) : Option (List Value × List ZC × Nat × Nat) := (z_popR S).bind fun r => (z_look σ r.1).bind fun c => z_gd (c.2.1 = true ∧ (ix = 7 ∧ c.1 = 1 ∨ ix = 15 ∧ c.1 = 2)) (some (.ref r.1 :: r.2, σ, 0, 0))
def o_sta (ix : Nat) (S : List Value) (σ : List ZC) : Option (List Value × List ZC × Nat × Nat) := z_gd (ix = 157 ∨ ix = 193) (some (.ref 1000000 :: S, σ, 0, 0))
def z_dflt : List Value := List.replicate 4 (.int 0) ++ List.replicate 20 .null
def o_obj (S : List Value) (σ : List ZC) : Option (List Value × List ZC × Nat × Nat) := some (.ref σ.length :: S, σ ++ [(0, true, z_dflt)], 1, 24)
def o_init (F N : Nat) (S : List Value) (σ : List ZC) : Option (List Value × List ZC × Nat × Nat) := (z_popR S).bind fun r => z_gd (1 ≤ F ∧ (r.2.map z_cat).sum + 12 ≤ N) (some (r.2, σ, 0, 0))
def o_clone (t F N : Nat) (ok : Value → Bool) (S : List Value) (σ : List ZC) : Option (List Value × List ZC × Nat × Nat) := (z_popR S).bind fun r => (z_look σ r.1).bind fun c => z_gd (c.1 = t ∧ c.2.1 = true ∧ c.2.2.all ok = true ∧ 1 ≤ F ∧ (r.2.map z_cat).sum + 14 ≤ N) (some (.ref σ.length :: r.2, σ ++ [c], 1, c.2.2.length))
def o_abs (F N : Nat) (S : List Value) (σ : List ZC) : Option (List Value × List ZC × Nat × Nat) := (z_popD S).bind fun x => z_gd (x.1 &&& 0x7fffffffffffffff ≤ 0x7ff0000000000000 ∧ 1 ≤ F ∧ (x.2.map z_cat).sum + 13 ≤ N) (some (.double (x.1 &&& 0x7fffffffffffffff) :: x.2, σ, 0, 0))
def o_mm (b : Bool) (F N : Nat) (S : List Value) (σ : List ZC) : Option (List Value × List ZC × Nat × Nat) := (z_popD S).bind fun y => (z_popD y.2).bind fun x => z_gd ((FP.dIsNaN x.1 = false ∧ FP.dIsNaN y.1 = false) ∧ 1 ≤ F ∧ (x.2.map z_cat).sum + 15 ≤ N) (some (.double (Jvm.Native.java_lang_Math.nans.pick64 b x.1 y.1) :: x.2, σ, 0, 0))
def z_acp (va vb : List Value) (s d n : Nat) : List Value := (List.range vb.length).map fun i => if d ≤ i ∧ i < d + n then va.getD (s + (i - d)) .null else vb.getD i .null
def o_acp (F N : Nat) (S : List Value) (σ : List ZC) : Option (List Value × List ZC × Nat × Nat) := (z_popI S).bind fun nn => (z_popI nn.2).bind fun dp => (z_popR dp.2).bind fun b => (z_popI b.2).bind fun sp => (z_popR sp.2).bind fun a => (z_look σ a.1).bind fun ca => (z_look σ b.1).bind fun cb => (z_ix nn.1 1000).bind fun n => (z_ix dp.1 1000).bind fun d => (z_ix sp.1 1000).bind fun s =>
  z_gd (ca.1 = 2 ∧ cb.1 = 2 ∧ ca.2.2.all z_okD = true ∧ cb.2.2.all z_okD = true ∧ s + n ≤ ca.2.2.length ∧ d + n ≤ cb.2.2.length ∧ 1 ≤ F ∧ (a.2.map z_cat).sum + 18 ≤ N) (some (a.2, σ.set b.1 (cb.1, false, z_acp ca.2.2 cb.2.2 s d n), 0, 0))
section Heap
variable {p : Program} {l : Launch} {e : Env} {R : Room} {s : State} {m : MethodId} {args : Array Value} {below : List Frame} {meth : Method} {c : Code} {Z : State} {own nm : String} {bytes : ByteArray} {maxL : Nat} {ret : Option FieldType} {n0 : Nat} {a0 : Array Value}
  {T : State} {h h' : Heap} {cells slots : Nat} {Q : Option Value → Heap → Prop} {Ls : Array Slot} {st : List Value} {pc n : Nat} {ι : Nat → Int32} {sg : Nat → Int32} {ρ : List Addr} {L L' : List Slot} {S S' : List Value}
variable {σ σ' : List ZC} {dc ds ix b F N : Nat}
theorem o_gf_ok (hw : ∀ d ∈ tables_1, d.before a0 Z = true) (P : Jvm.Own.Pos p l e R s m args below meth c Z own nm bytes maxL ret n0 T h cells slots) (hd : decode bytes pc = .ok (.getfield ix, 3)) (ho : own = z_DS)  (I : ZI ι Z n0 h ρ σ) (HS : ZR (ZV ι ρ) S st) (rc : cells + dc ≤ R.cells) (rs : slots + ds ≤ R.slots) (q : o_gf ix S σ = some (S', σ', dc, ds))
    (E : ∀ T h' ρ' st', Jvm.Own.Pos p l e R s m args below meth c Z own nm bytes maxL ret n0 T h' (cells + dc) (slots + ds) → ZI ι Z n0 h' ρ' σ' → (∃ t, ρ' = ρ ++ t) → ZR (ZV ι ρ') S' st' → Jvm.Own.Ends p e below s R n0 Q T (mkF m (pc + 3) Ls st')) : Jvm.Own.Ends p e below s R n0 Q T (mkF m pc Ls st) := by
  subst ho
  obtain ⟨a, q1, q⟩ := z_bnd q
  obtain ⟨cl, q2, q⟩ := z_bnd q
  obtain ⟨t0, q⟩ := z_gdd q
  obtain ⟨f, q3, q⟩ := z_bnd q
  obtain ⟨v, q4, q⟩ := z_bnd q
  obtain ⟨rfl, rfl, rfl, rfl⟩ := z_inj4 q
  have e1 := z_popR_ok q1
  subst e1
  obtain ⟨_, r, rfl, ⟨x, rfl, hx⟩, hs⟩ := HS
  obtain ⟨C, lo, hr⟩ := I.at q2 hx
  obtain ⟨-, -, C⟩ := C.obj t0
  obtain ⟨w, kw, F⟩ := C f v q4
  exact getF P hd (z_fl_ok hw q3 rfl) F rfl fun T P => E T h ρ _ P I ⟨[], (List.append_nil _).symm⟩ (ZR.cons kw hs)
theorem o_pf_ok (hw : ∀ d ∈ tables_1, d.before a0 Z = true) (P : Jvm.Own.Pos p l e R s m args below meth c Z own nm bytes maxL ret n0 T h cells slots) (hd : decode bytes pc = .ok (.putfield ix, 3)) (ho : own = z_DS) (hb : b = 1 → nm = "<init>") (I : ZI ι Z n0 h ρ σ) (HS : ZR (ZV ι ρ) S st) (rc : cells + dc ≤ R.cells) (rs : slots + ds ≤ R.slots) (q : o_pf b ix S σ = some (S', σ', dc, ds))
    (E : ∀ T h' ρ' st', Jvm.Own.Pos p l e R s m args below meth c Z own nm bytes maxL ret n0 T h' (cells + dc) (slots + ds) → ZI ι Z n0 h' ρ' σ' → (∃ t, ρ' = ρ ++ t) → ZR (ZV ι ρ') S' st' → Jvm.Own.Ends p e below s R n0 Q T (mkF m (pc + 3) Ls st')) : Jvm.Own.Ends p e below s R n0 Q T (mkF m pc Ls st) := by
  subst ho
  obtain ⟨a, q1, q⟩ := z_bnd q
  obtain ⟨r, q2, q⟩ := z_bnd q
  obtain ⟨cl, q3, q⟩ := z_bnd q
  obtain ⟨t0, q⟩ := z_gdd q
  obtain ⟨f, q4, q⟩ := z_bnd q
  obtain ⟨⟨f1, f2, f3⟩, q⟩ := z_gdd q
  obtain ⟨rfl, rfl, rfl, rfl⟩ := z_inj4 q
  have e1 := (z_pop_ok q1).1
  rw [z_popR_ok q2] at e1
  subst e1
  obtain ⟨w, _, rfl, kw, _, _, rfl, ⟨x, rfl, hx⟩, hs⟩ := HS
  obtain ⟨C, lo, hr⟩ := I.at q3 hx
  obtain ⟨E0, ln, FF⟩ := C.obj t0
  obtain ⟨v0, hv0⟩ : ∃ v0, cl.2.2[f]? = some v0 := ⟨_, List.getElem?_eq_getElem (by omega)⟩
  obtain ⟨w0, k0, F0⟩ := FF f v0 hv0
  obtain ⟨hn, hf⟩ := z_put f3 kw
  refine putF P hd (z_fl_ok hw q4 rfl) F0 E0 ?_ (hw _ (List.mem_of_getElem? (i := 5) rfl)) (z_parse f f1) hn hf lo rfl ?_
  · rcases z_layA hw f f1 with ⟨g1, g2⟩ | ⟨g1, g2⟩
    · exact Or.inl g2
    · exact Or.inr ⟨g2, rfl, hb (f2.resolve_left (by rw [g1]; decide))⟩
  intro T h' P W
  refine E T h' ρ _ P (I.wr hr lo W (ZK.mkO rfl ⟨Exa.wr W E0, ?_, ?_⟩)) ⟨[], (List.append_nil _).symm⟩ hs
  · show (cl.2.2.set f a.1).length = _; rw [List.length_set]; exact ln
  intro g v e2
  rcases z_set_get e2 with ⟨rfl, rfl⟩ | ⟨ne, e2⟩
  · exact ⟨w, kw, Fld.same W F0⟩
  · obtain ⟨w', k', F'⟩ := FF g v e2
    have gl : g < 24 := by have := z_lt e2; omega
    exact ⟨w', k', Fld.other W F' (Or.inr (Jvm.RoadKit.slot_ne (z_laid hw g gl) (z_laid hw f f1) (z_names g gl f f1 ne) (z_parse g gl) (z_parse f f1)))⟩
theorem z_daload {a : Addr} {k : Nat} {f : Nat → Value} {j : Int32} {u : Nat} {x : UInt64} (P : Jvm.Own.Pos p l e R s m args below meth c Z own nm bytes maxL ret n0 T h cells slots) (hd : decode bytes pc = .ok (.daload, 1)) (A : AR Z h a .double k f) (hj : j.toInt = u ∧ u < k) (hv : f u = .double x) (hn : n = pc + 1)
    (E : Jvm.Own.Ends p e below s R n0 Q T (mkF m n Ls (.double x :: st))) : Jvm.Own.Ends p e below s R n0 Q T (mkF m pc Ls (.int j :: .ref a :: st)) := by
  subst hn; obtain ⟨_, X, N⟩ := P.stand
  obtain ⟨cl, B, r1, r2, r3⟩ := A
  obtain ⟨q1, q5⟩ := inA hj r1
  have q2 : cl.slots[j.toNatClampNeg]? = some (.double x) := by rw [q5, ← hv]; exact r3 _ hj.2
  have q3 : T.heap[a]? = some cl := by rw [P.heap]; exact B.1
  have q4 := State.isArrayOf_alike (T := s) P.hZ.alike B.2.1
  exact E.via fun t k => X.daload P.hx q3 q4 B.2.2 q1 q2 (g := mkF m pc Ls (.int j :: .ref a :: st)) rfl rfl (hb P.code hd) t k
theorem z_clone {a : Addr} {k : Nat} {f : Nat → Value} {ty : FieldType} {index cap : Nat} {ad : String} (P : Jvm.Own.Pos p l e R s m args below meth c Z own nm bytes maxL ret n0 T h cells slots) (hd : decode bytes pc = .ok (.invokevirtual index, 3))
    (w1 : (Cond.methodLink own index ⟨ad, "clone", "()Ljava/lang/Object;"⟩).before a0 Z = true) (w2 : (Cond.sameMethod ad "java/lang/Object" "clone" "()Ljava/lang/Object;").before a0 Z = true) (w3 : (Cond.native ⟨"java/lang/Object", "clone", "()Ljava/lang/Object;"⟩).before a0 Z = true)
    (w4 : (Cond.instanceMethod ⟨"java/lang/Object", "clone", "()Ljava/lang/Object;"⟩).before a0 Z = true) (w5 : (Cond.selects ad ⟨ad, "clone", "()Ljava/lang/Object;"⟩ ⟨"java/lang/Object", "clone", "()Ljava/lang/Object;"⟩).before a0 Z = true) (w6 : (Cond.castable ad "java/lang/Cloneable").before a0 Z = true)
    (A : AR Z h a ty k f) (ff : ∀ i, i < k → fits ty (f i) = true) (Ea : Exa Z h a ad) (hsz : Ls.size = maxL) (hf : 1 ≤ R.frames) (hl : (st.map fun v => v.category).sum + 14 ≤ R.locals) (hcap : k ≤ cap) (hc : cells + 1 ≤ R.cells ∧ slots + cap ≤ R.slots) (hn : n = pc + 3)
    (E : ∀ T h' b, Jvm.Own.Pos p l e R s m args below meth c Z own nm bytes maxL ret n0 T h' (cells + 1) (slots + cap) → Ext h h' → b = h.size → n0 ≤ b → AR Z h' b ty k f → Exa Z h' b ad → Jvm.Own.Ends p e below s R n0 Q T (mkF m n Ls (.ref b :: st))) : Jvm.Own.Ends p e below s R n0 Q T (mkF m pc Ls (.ref a :: st)) := by
  subst hn; obtain ⟨_, X, N⟩ := P.stand
  obtain ⟨cl, B, r1, r2, r3⟩ := A
  have FC : FitC Z cl := fitC_of B fun i hi v hv => by rw [r3 i (by omega)] at hv; cases hv; exact ff i (by omega)
  obtain ⟨T', h', X', e', Ex, A', E', kk⟩ := Jvm.RoadKit.cloneA X P.hx P.hZ P.own' w1 w2 w3 w4 w5 w6 P.heap B Ea FC (g := mkF m pc Ls (.ref a :: st)) rfl (hsz.trans P.maxl.symm) rfl (hb P.code hd) hf (W := (st.map fun v => v.category).sum) (by show 2 * 0 + _ ≤ _; omega) hl (cap := cap) (by omega) hc.1 hc.2
  exact (E T' h' _ (P.to X' N e') Ex rfl P.low ⟨_, A', r1, r2, r3⟩ E').via kk
theorem z_fitsD {vs : List Value} {g : Nat → Value} (K : ∀ (i : Nat) (v : Value), vs[i]? = some v → ZV ι ρ v (g i)) (al : vs.all z_okD = true) : ∀ i, i < vs.length → fits .double (g i) = true := by
  intro i hi
  have e := List.getElem?_eq_getElem hi
  obtain ⟨x, hx⟩ := z_okD_v (List.all_eq_true.mp al _ (List.mem_of_getElem? e)) (K i _ e)
  rw [hx]; rfl
theorem z_fitsI {vs : List Value} {g : Nat → Value} (K : ∀ (i : Nat) (v : Value), vs[i]? = some v → ZV ι ρ v (g i)) (al : vs.all z_okI = true) : ∀ i, i < vs.length → fits .int (g i) = true := by
  intro i hi
  have e := List.getElem?_eq_getElem hi
  obtain ⟨x, hx⟩ := z_okI_v (List.all_eq_true.mp al _ (List.mem_of_getElem? e)) (K i _ e)
  rw [hx]; rfl
theorem o_ia_ok (hw : ∀ d ∈ tables_1, d.before a0 Z = true) (P : Jvm.Own.Pos p l e R s m args below meth c Z own nm bytes maxL ret n0 T h cells slots) (hd : decode bytes pc = .ok (.iaload, 1))  (I : ZI ι Z n0 h ρ σ) (HS : ZR (ZV ι ρ) S st) (rc : cells + dc ≤ R.cells) (rs : slots + ds ≤ R.slots) (q : o_ald 1 1 z_okI S σ = some (S', σ', dc, ds))
    (E : ∀ T h' ρ' st', Jvm.Own.Pos p l e R s m args below meth c Z own nm bytes maxL ret n0 T h' (cells + dc) (slots + ds) → ZI ι Z n0 h' ρ' σ' → (∃ t, ρ' = ρ ++ t) → ZR (ZV ι ρ') S' st' → Jvm.Own.Ends p e below s R n0 Q T (mkF m (pc + 1) Ls st')) : Jvm.Own.Ends p e below s R n0 Q T (mkF m pc Ls st) := by
  obtain ⟨a, q1, q⟩ := z_bnd q
  obtain ⟨r, q2, q⟩ := z_bnd q
  obtain ⟨cl, q3, q⟩ := z_bnd q
  obtain ⟨tt, q⟩ := z_gdd q
  obtain ⟨u, q4, q⟩ := z_bnd q
  obtain ⟨v, q5, q⟩ := z_bnd q
  obtain ⟨o, q⟩ := z_gdd q
  obtain ⟨rfl, rfl, rfl, rfl⟩ := z_inj4 q
  have e1 := z_popI_ok q1
  rw [z_popR_ok q2] at e1
  subst e1
  obtain ⟨_, _, rfl, hj, _, _, rfl, ⟨x, rfl, hx⟩, hs⟩ := HS
  obtain rfl : _ = Value.int _ := hj
  obtain ⟨C, lo, hr⟩ := I.at q3 hx
  obtain ⟨g, A, K, -⟩ := C.arr (by rcases tt with h | h <;> rw [h] <;> decide)
  have kv := K u v q5
  have tt : cl.1 = 1 := tt.elim id id
  rw [tt] at A
  exact ldA P hd A (Or.inr (Or.inl ⟨rfl, rfl⟩)) (z_ix_ok q4) rfl rfl (E T h ρ _ P I ⟨[], (List.append_nil _).symm⟩ (ZR.cons kv hs))
theorem o_da_ok (hw : ∀ d ∈ tables_1, d.before a0 Z = true) (P : Jvm.Own.Pos p l e R s m args below meth c Z own nm bytes maxL ret n0 T h cells slots) (hd : decode bytes pc = .ok (.daload, 1))  (I : ZI ι Z n0 h ρ σ) (HS : ZR (ZV ι ρ) S st) (rc : cells + dc ≤ R.cells) (rs : slots + ds ≤ R.slots) (q : o_ald 2 2 z_okD S σ = some (S', σ', dc, ds))
    (E : ∀ T h' ρ' st', Jvm.Own.Pos p l e R s m args below meth c Z own nm bytes maxL ret n0 T h' (cells + dc) (slots + ds) → ZI ι Z n0 h' ρ' σ' → (∃ t, ρ' = ρ ++ t) → ZR (ZV ι ρ') S' st' → Jvm.Own.Ends p e below s R n0 Q T (mkF m (pc + 1) Ls st')) : Jvm.Own.Ends p e below s R n0 Q T (mkF m pc Ls st) := by
  obtain ⟨a, q1, q⟩ := z_bnd q
  obtain ⟨r, q2, q⟩ := z_bnd q
  obtain ⟨cl, q3, q⟩ := z_bnd q
  obtain ⟨tt, q⟩ := z_gdd q
  obtain ⟨u, q4, q⟩ := z_bnd q
  obtain ⟨v, q5, q⟩ := z_bnd q
  obtain ⟨o, q⟩ := z_gdd q
  obtain ⟨rfl, rfl, rfl, rfl⟩ := z_inj4 q
  have e1 := z_popI_ok q1
  rw [z_popR_ok q2] at e1
  subst e1
  obtain ⟨_, _, rfl, hj, _, _, rfl, ⟨x, rfl, hx⟩, hs⟩ := HS
  obtain rfl : _ = Value.int _ := hj
  obtain ⟨C, lo, hr⟩ := I.at q3 hx
  obtain ⟨g, A, K, -⟩ := C.arr (by rcases tt with h | h <;> rw [h] <;> decide)
  have kv := K u v q5
  have tt : cl.1 = 2 := tt.elim id id
  rw [tt] at A
  obtain ⟨y, hy⟩ := z_okD_v o kv
  rw [hy] at kv
  exact z_daload P hd A (z_ix_ok q4) hy rfl (E T h ρ _ P I ⟨[], (List.append_nil _).symm⟩ (ZR.cons kv hs))
theorem o_aa_ok (hw : ∀ d ∈ tables_1, d.before a0 Z = true) (P : Jvm.Own.Pos p l e R s m args below meth c Z own nm bytes maxL ret n0 T h cells slots) (hd : decode bytes pc = .ok (.aaload, 1))  (I : ZI ι Z n0 h ρ σ) (HS : ZR (ZV ι ρ) S st) (rc : cells + dc ≤ R.cells) (rs : slots + ds ≤ R.slots) (q : o_ald 3 4 z_okR S σ = some (S', σ', dc, ds))
    (E : ∀ T h' ρ' st', Jvm.Own.Pos p l e R s m args below meth c Z own nm bytes maxL ret n0 T h' (cells + dc) (slots + ds) → ZI ι Z n0 h' ρ' σ' → (∃ t, ρ' = ρ ++ t) → ZR (ZV ι ρ') S' st' → Jvm.Own.Ends p e below s R n0 Q T (mkF m (pc + 1) Ls st')) : Jvm.Own.Ends p e below s R n0 Q T (mkF m pc Ls st) := by
  obtain ⟨a, q1, q⟩ := z_bnd q
  obtain ⟨r, q2, q⟩ := z_bnd q
  obtain ⟨cl, q3, q⟩ := z_bnd q
  obtain ⟨tt, q⟩ := z_gdd q
  obtain ⟨u, q4, q⟩ := z_bnd q
  obtain ⟨v, q5, q⟩ := z_bnd q
  obtain ⟨o, q⟩ := z_gdd q
  obtain ⟨rfl, rfl, rfl, rfl⟩ := z_inj4 q
  have e1 := z_popI_ok q1
  rw [z_popR_ok q2] at e1
  subst e1
  obtain ⟨_, _, rfl, hj, _, _, rfl, ⟨x, rfl, hx⟩, hs⟩ := HS
  obtain rfl : _ = Value.int _ := hj
  obtain ⟨C, lo, hr⟩ := I.at q3 hx
  obtain ⟨g, A, K, -⟩ := C.arr (by rcases tt with h | h <;> rw [h] <;> decide)
  have kv := K u v q5
  exact ldA P hd A (Or.inr (Or.inr (Or.inr (Or.inr ⟨rfl, by rcases tt with h | h <;> rw [h] <;> rfl⟩)))) (z_ix_ok q4) rfl rfl (E T h ρ _ P I ⟨[], (List.append_nil _).symm⟩ (ZR.cons kv hs))
theorem o_is_ok (hw : ∀ d ∈ tables_1, d.before a0 Z = true) (P : Jvm.Own.Pos p l e R s m args below meth c Z own nm bytes maxL ret n0 T h cells slots) (hd : decode bytes pc = .ok (.iastore, 1))  (I : ZI ι Z n0 h ρ σ) (HS : ZR (ZV ι ρ) S st) (rc : cells + dc ≤ R.cells) (rs : slots + ds ≤ R.slots) (q : o_ast 1 z_okI S σ = some (S', σ', dc, ds))
    (E : ∀ T h' ρ' st', Jvm.Own.Pos p l e R s m args below meth c Z own nm bytes maxL ret n0 T h' (cells + dc) (slots + ds) → ZI ι Z n0 h' ρ' σ' → (∃ t, ρ' = ρ ++ t) → ZR (ZV ι ρ') S' st' → Jvm.Own.Ends p e below s R n0 Q T (mkF m (pc + 1) Ls st')) : Jvm.Own.Ends p e below s R n0 Q T (mkF m pc Ls st) := by
  obtain ⟨a, q1, q⟩ := z_bnd q
  obtain ⟨j, q2, q⟩ := z_bnd q
  obtain ⟨r, q3, q⟩ := z_bnd q
  obtain ⟨cl, q4, q⟩ := z_bnd q
  obtain ⟨tt, q⟩ := z_gdd q
  obtain ⟨u, q5, q⟩ := z_bnd q
  obtain ⟨rfl, rfl, rfl, rfl⟩ := z_inj4 q
  obtain ⟨e1, o⟩ := z_pop_ok q1
  rw [z_popI_ok q2] at e1
  rw [z_popR_ok q3] at e1
  subst e1
  obtain ⟨w, _, rfl, kw, _, _, rfl, hj, _, _, rfl, ⟨x, rfl, hx⟩, hs⟩ := HS
  obtain rfl : _ = Value.int _ := hj
  obtain ⟨C, lo, hr⟩ := I.at q4 hx
  have t0 : cl.1 ≠ 0 := by rw [tt]; decide
  obtain ⟨g, A, K, -⟩ := C.arr t0
  rw [tt] at A
  obtain ⟨y, rfl⟩ := z_okI_v o kw
  refine stI P hd A (z_ix_ok q5) lo rfl ?_
  intro T h' P W
  exact E T h' ρ _ P (I.wr hr lo W (C.wr t0 W kw)) ⟨[], (List.append_nil _).symm⟩ hs
theorem o_ds_ok (hw : ∀ d ∈ tables_1, d.before a0 Z = true) (P : Jvm.Own.Pos p l e R s m args below meth c Z own nm bytes maxL ret n0 T h cells slots) (hd : decode bytes pc = .ok (.dastore, 1))  (I : ZI ι Z n0 h ρ σ) (HS : ZR (ZV ι ρ) S st) (rc : cells + dc ≤ R.cells) (rs : slots + ds ≤ R.slots) (q : o_ast 2 z_okD S σ = some (S', σ', dc, ds))
    (E : ∀ T h' ρ' st', Jvm.Own.Pos p l e R s m args below meth c Z own nm bytes maxL ret n0 T h' (cells + dc) (slots + ds) → ZI ι Z n0 h' ρ' σ' → (∃ t, ρ' = ρ ++ t) → ZR (ZV ι ρ') S' st' → Jvm.Own.Ends p e below s R n0 Q T (mkF m (pc + 1) Ls st')) : Jvm.Own.Ends p e below s R n0 Q T (mkF m pc Ls st) := by
  obtain ⟨a, q1, q⟩ := z_bnd q
  obtain ⟨j, q2, q⟩ := z_bnd q
  obtain ⟨r, q3, q⟩ := z_bnd q
  obtain ⟨cl, q4, q⟩ := z_bnd q
  obtain ⟨tt, q⟩ := z_gdd q
  obtain ⟨u, q5, q⟩ := z_bnd q
  obtain ⟨rfl, rfl, rfl, rfl⟩ := z_inj4 q
  obtain ⟨e1, o⟩ := z_pop_ok q1
  rw [z_popI_ok q2] at e1
  rw [z_popR_ok q3] at e1
  subst e1
  obtain ⟨w, _, rfl, kw, _, _, rfl, hj, _, _, rfl, ⟨x, rfl, hx⟩, hs⟩ := HS
  obtain rfl : _ = Value.int _ := hj
  obtain ⟨C, lo, hr⟩ := I.at q4 hx
  have t0 : cl.1 ≠ 0 := by rw [tt]; decide
  obtain ⟨g, A, K, -⟩ := C.arr t0
  rw [tt] at A
  obtain ⟨y, rfl⟩ := z_okD_v o kw
  refine stD P hd A (z_ix_ok q5) lo rfl ?_
  intro T h' P W
  exact E T h' ρ _ P (I.wr hr lo W (C.wr t0 W kw)) ⟨[], (List.append_nil _).symm⟩ hs
theorem o_aas_ok (hw : ∀ d ∈ tables_1, d.before a0 Z = true) (P : Jvm.Own.Pos p l e R s m args below meth c Z own nm bytes maxL ret n0 T h cells slots) (hd : decode bytes pc = .ok (.aastore, 1))  (I : ZI ι Z n0 h ρ σ) (HS : ZR (ZV ι ρ) S st) (rc : cells + dc ≤ R.cells) (rs : slots + ds ≤ R.slots) (q : o_aas S σ = some (S', σ', dc, ds))
    (E : ∀ T h' ρ' st', Jvm.Own.Pos p l e R s m args below meth c Z own nm bytes maxL ret n0 T h' (cells + dc) (slots + ds) → ZI ι Z n0 h' ρ' σ' → (∃ t, ρ' = ρ ++ t) → ZR (ZV ι ρ') S' st' → Jvm.Own.Ends p e below s R n0 Q T (mkF m (pc + 1) Ls st')) : Jvm.Own.Ends p e below s R n0 Q T (mkF m pc Ls st) := by
  obtain ⟨a, q1, q⟩ := z_bnd q
  obtain ⟨j, q2, q⟩ := z_bnd q
  obtain ⟨r, q3, q⟩ := z_bnd q
  obtain ⟨cl, q4, q⟩ := z_bnd q
  obtain ⟨d, q5, q⟩ := z_bnd q
  obtain ⟨⟨tt, fu, fu2⟩, q⟩ := z_gdd q
  obtain ⟨u, q6, q⟩ := z_bnd q
  obtain ⟨rfl, rfl, rfl, rfl⟩ := z_inj4 q
  have e1 := z_popR_ok q1
  rw [z_popI_ok q2] at e1
  rw [z_popR_ok q3] at e1
  subst e1
  obtain ⟨_, _, rfl, ⟨ya, rfl, hya⟩, _, _, rfl, hj, _, _, rfl, ⟨x, rfl, hx⟩, hs⟩ := HS
  obtain rfl : _ = Value.int _ := hj
  obtain ⟨C, lo, hr⟩ := I.at q4 hx
  obtain ⟨D, -, -⟩ := I.at q5 hya
  rcases tt with ⟨c3, d1⟩ | ⟨c3, d1⟩
  · have t0 : cl.1 ≠ 0 := by rw [c3]; decide
    obtain ⟨g, A, K, X⟩ := C.arr t0
    obtain ⟨g2, A2, K2, X2⟩ := D.arr (by rw [d1]; decide)
    have XX : ARA Z h x .int "[I" cl.2.2.length g := by have := X fu; rw [c3] at this; exact this
    have YY : Exa Z h ya "[I" := by have := X2 fu2; rw [d1] at this; exact this
    refine stRA P hd XX (z_ix_ok q6) (Ins.of_exa YY (hw _ (List.mem_of_getElem? (i := 106) rfl))) lo rfl ?_
    intro T h' P W
    exact E T h' ρ _ P (I.wr hr lo W (C.wr t0 W ⟨ya, rfl, hya⟩)) ⟨[], (List.append_nil _).symm⟩ hs
  · have t0 : cl.1 ≠ 0 := by rw [c3]; decide
    obtain ⟨g, A, K, X⟩ := C.arr t0
    obtain ⟨g2, A2, K2, X2⟩ := D.arr (by rw [d1]; decide)
    have XX : ARA Z h x .double "[D" cl.2.2.length g := by have := X fu; rw [c3] at this; exact this
    have YY : Exa Z h ya "[D" := by have := X2 fu2; rw [d1] at this; exact this
    refine stRA P hd XX (z_ix_ok q6) (Ins.of_exa YY (hw _ (List.mem_of_getElem? (i := 47) rfl))) lo rfl ?_
    intro T h' P W
    exact E T h' ρ _ P (I.wr hr lo W (C.wr t0 W ⟨ya, rfl, hya⟩)) ⟨[], (List.append_nil _).symm⟩ hs
theorem o_len_ok (hw : ∀ d ∈ tables_1, d.before a0 Z = true) (P : Jvm.Own.Pos p l e R s m args below meth c Z own nm bytes maxL ret n0 T h cells slots) (hd : decode bytes pc = .ok (.arraylength, 1))  (I : ZI ι Z n0 h ρ σ) (HS : ZR (ZV ι ρ) S st) (rc : cells + dc ≤ R.cells) (rs : slots + ds ≤ R.slots) (q : o_len S σ = some (S', σ', dc, ds))
    (E : ∀ T h' ρ' st', Jvm.Own.Pos p l e R s m args below meth c Z own nm bytes maxL ret n0 T h' (cells + dc) (slots + ds) → ZI ι Z n0 h' ρ' σ' → (∃ t, ρ' = ρ ++ t) → ZR (ZV ι ρ') S' st' → Jvm.Own.Ends p e below s R n0 Q T (mkF m (pc + 1) Ls st')) : Jvm.Own.Ends p e below s R n0 Q T (mkF m pc Ls st) := by
  obtain ⟨r, q1, q⟩ := z_bnd q
  obtain ⟨cl, q2, q⟩ := z_bnd q
  obtain ⟨t0, q⟩ := z_gdd q
  obtain ⟨rfl, rfl, rfl, rfl⟩ := z_inj4 q
  have e1 := z_popR_ok q1
  subst e1
  obtain ⟨_, _, rfl, ⟨x, rfl, hx⟩, hs⟩ := HS
  obtain ⟨C, lo, hr⟩ := I.at q2 hx
  obtain ⟨g, A, K, -⟩ := C.arr t0
  exact alen P hd A (Int32.toInt_ofNat_small A.len) rfl (E T h ρ _ P I ⟨[], (List.append_nil _).symm⟩ (ZR.cons rfl hs))
theorem o_new1_ok (hw : ∀ d ∈ tables_1, d.before a0 Z = true) (P : Jvm.Own.Pos p l e R s m args below meth c Z own nm bytes maxL ret n0 T h cells slots) (hd : decode bytes pc = .ok (.newarray .int, 2))  (I : ZI ι Z n0 h ρ σ) (HS : ZR (ZV ι ρ) S st) (rc : cells + dc ≤ R.cells) (rs : slots + ds ≤ R.slots) (q : o_new 1 (.int 0) S σ = some (S', σ', dc, ds))
    (E : ∀ T h' ρ' st', Jvm.Own.Pos p l e R s m args below meth c Z own nm bytes maxL ret n0 T h' (cells + dc) (slots + ds) → ZI ι Z n0 h' ρ' σ' → (∃ t, ρ' = ρ ++ t) → ZR (ZV ι ρ') S' st' → Jvm.Own.Ends p e below s R n0 Q T (mkF m (pc + 2) Ls st')) : Jvm.Own.Ends p e below s R n0 Q T (mkF m pc Ls st) := by
  obtain ⟨a, q1, q⟩ := z_bnd q
  obtain ⟨k, q2, q⟩ := z_bnd q
  obtain ⟨rfl, rfl, rfl, rfl⟩ := z_inj4 q
  have e1 := z_popI_ok q1
  subst e1
  obtain ⟨_, _, rfl, hj, hs⟩ := HS
  obtain rfl : _ = Value.int _ := hj
  obtain ⟨hk, k1⟩ := z_ix_ok q2
  refine newPE P hd (ad := "[I") (hw _ (List.mem_of_getElem? (i := 3) rfl)) (k := k) (cap := k) ⟨hk, Nat.le_refl _⟩ (by omega) ⟨rc, rs⟩ (by decide) rfl ?_
  intro T h' b P X gb lo A E0
  exact E T h' (ρ ++ [b]) _ P (I.push X gb (ZK.ofRep (by decide) A rfl E0)) ⟨_, rfl⟩ (ZR.cons I.last (ZR.mono (fun _ _ => ZV.mono) hs))
theorem o_new2_ok (hw : ∀ d ∈ tables_1, d.before a0 Z = true) (P : Jvm.Own.Pos p l e R s m args below meth c Z own nm bytes maxL ret n0 T h cells slots) (hd : decode bytes pc = .ok (.newarray .double, 2))  (I : ZI ι Z n0 h ρ σ) (HS : ZR (ZV ι ρ) S st) (rc : cells + dc ≤ R.cells) (rs : slots + ds ≤ R.slots) (q : o_new 2 (.double 0) S σ = some (S', σ', dc, ds))
    (E : ∀ T h' ρ' st', Jvm.Own.Pos p l e R s m args below meth c Z own nm bytes maxL ret n0 T h' (cells + dc) (slots + ds) → ZI ι Z n0 h' ρ' σ' → (∃ t, ρ' = ρ ++ t) → ZR (ZV ι ρ') S' st' → Jvm.Own.Ends p e below s R n0 Q T (mkF m (pc + 2) Ls st')) : Jvm.Own.Ends p e below s R n0 Q T (mkF m pc Ls st) := by
  obtain ⟨a, q1, q⟩ := z_bnd q
  obtain ⟨k, q2, q⟩ := z_bnd q
  obtain ⟨rfl, rfl, rfl, rfl⟩ := z_inj4 q
  have e1 := z_popI_ok q1
  subst e1
  obtain ⟨_, _, rfl, hj, hs⟩ := HS
  obtain rfl : _ = Value.int _ := hj
  obtain ⟨hk, k1⟩ := z_ix_ok q2
  refine newPE P hd (ad := "[D") (hw _ (List.mem_of_getElem? (i := 0) rfl)) (k := k) (cap := k) ⟨hk, Nat.le_refl _⟩ (by omega) ⟨rc, rs⟩ (by decide) rfl ?_
  intro T h' b P X gb lo A E0
  exact E T h' (ρ ++ [b]) _ P (I.push X gb (ZK.ofRep (by decide) A rfl E0)) ⟨_, rfl⟩ (ZR.cons I.last (ZR.mono (fun _ _ => ZV.mono) hs))
theorem o_new3_ok (hw : ∀ d ∈ tables_1, d.before a0 Z = true) (P : Jvm.Own.Pos p l e R s m args below meth c Z own nm bytes maxL ret n0 T h cells slots) (hd : decode bytes pc = .ok (.anewarray 7, 3)) (ho : own = z_DS)  (I : ZI ι Z n0 h ρ σ) (HS : ZR (ZV ι ρ) S st) (rc : cells + dc ≤ R.cells) (rs : slots + ds ≤ R.slots) (q : o_new 3 .null S σ = some (S', σ', dc, ds))
    (E : ∀ T h' ρ' st', Jvm.Own.Pos p l e R s m args below meth c Z own nm bytes maxL ret n0 T h' (cells + dc) (slots + ds) → ZI ι Z n0 h' ρ' σ' → (∃ t, ρ' = ρ ++ t) → ZR (ZV ι ρ') S' st' → Jvm.Own.Ends p e below s R n0 Q T (mkF m (pc + 3) Ls st')) : Jvm.Own.Ends p e below s R n0 Q T (mkF m pc Ls st) := by
  subst ho
  obtain ⟨a, q1, q⟩ := z_bnd q
  obtain ⟨k, q2, q⟩ := z_bnd q
  obtain ⟨rfl, rfl, rfl, rfl⟩ := z_inj4 q
  have e1 := z_popI_ok q1
  subst e1
  obtain ⟨_, _, rfl, hj, hs⟩ := HS
  obtain rfl : _ = Value.int _ := hj
  obtain ⟨hk, k1⟩ := z_ix_ok q2
  refine newRAX P hd (ty := .int) (C := "[I") (ad := "[[I") (by decide) (by decide) (hw _ (List.mem_of_getElem? (i := 13) rfl)) (hw _ (List.mem_of_getElem? (i := 14) rfl)) (k := k) (cap := k) ⟨hk, Nat.le_refl _⟩ (by omega) ⟨rc, rs⟩ rfl ?_
  intro T h' b P X gb lo A
  exact E T h' (ρ ++ [b]) _ P (I.push X gb (ZK.ofRep (by decide) A.ar rfl A)) ⟨_, rfl⟩ (ZR.cons I.last (ZR.mono (fun _ _ => ZV.mono) hs))
theorem o_new4_ok (hw : ∀ d ∈ tables_1, d.before a0 Z = true) (P : Jvm.Own.Pos p l e R s m args below meth c Z own nm bytes maxL ret n0 T h cells slots) (hd : decode bytes pc = .ok (.anewarray 15, 3)) (ho : own = z_DS)  (I : ZI ι Z n0 h ρ σ) (HS : ZR (ZV ι ρ) S st) (rc : cells + dc ≤ R.cells) (rs : slots + ds ≤ R.slots) (q : o_new 4 .null S σ = some (S', σ', dc, ds))
    (E : ∀ T h' ρ' st', Jvm.Own.Pos p l e R s m args below meth c Z own nm bytes maxL ret n0 T h' (cells + dc) (slots + ds) → ZI ι Z n0 h' ρ' σ' → (∃ t, ρ' = ρ ++ t) → ZR (ZV ι ρ') S' st' → Jvm.Own.Ends p e below s R n0 Q T (mkF m (pc + 3) Ls st')) : Jvm.Own.Ends p e below s R n0 Q T (mkF m pc Ls st) := by
  subst ho
  obtain ⟨a, q1, q⟩ := z_bnd q
  obtain ⟨k, q2, q⟩ := z_bnd q
  obtain ⟨rfl, rfl, rfl, rfl⟩ := z_inj4 q
  have e1 := z_popI_ok q1
  subst e1
  obtain ⟨_, _, rfl, hj, hs⟩ := HS
  obtain rfl : _ = Value.int _ := hj
  obtain ⟨hk, k1⟩ := z_ix_ok q2
  refine newRAX P hd (ty := .double) (C := "[D") (ad := "[[D") (by decide) (by decide) (hw _ (List.mem_of_getElem? (i := 17) rfl)) (hw _ (List.mem_of_getElem? (i := 18) rfl)) (k := k) (cap := k) ⟨hk, Nat.le_refl _⟩ (by omega) ⟨rc, rs⟩ rfl ?_
  intro T h' b P X gb lo A
  exact E T h' (ρ ++ [b]) _ P (I.push X gb (ZK.ofRep (by decide) A.ar rfl A)) ⟨_, rfl⟩ (ZR.cons I.last (ZR.mono (fun _ _ => ZV.mono) hs))
theorem z_range {b N i x : Nat} (e : ((List.range (N + 1)).map fun j => b + j)[i]? = some x) : i < N + 1 ∧ x = b + i := by
  obtain ⟨h1, h2⟩ := List.getElem?_eq_some_iff.mp e
  simp at h1 h2
  exact ⟨h1, h2.symm⟩
theorem z_range' {b N i : Nat} (h : i < N + 1) : ((List.range (N + 1)).map fun j => b + j)[i]? = some (b + i) := by
  rw [List.getElem?_eq_getElem (by simpa using h)]; simp
theorem z_grid {t cap N b : Nat} {d w : Value} (t0 : t = 1 ∨ t = 2) (I : ZI ι Z n0 h ρ σ) (X : Ext h h') (gb : b = h.size) (A : AR Z h' b (z_ty (t + 2)) N (fun j => .ref (b + 1 + j))) (B : ∀ j, j < N → AR Z h' (b + 1 + j) (z_ty t) cap (fun _ => w)) (kd : ∀ ρ, ZV ι ρ d w) :
    ZI ι Z n0 h' (ρ ++ (List.range (N + 1)).map fun j => b + j) (σ ++ ((t + 2, false, (List.range N).map fun j => Value.ref (σ.length + 1 + j)) :: List.replicate N (t, false, List.replicate cap d))) := by
  have t1 : t ≠ 0 := by omega
  refine I.app X (by simp) (fun i x e => ?_) (fun i j x e1 e2 => ?_) (fun i x c e1 e2 => ?_)
  · obtain ⟨h1, rfl⟩ := z_range e
    refine ⟨by omega, ?_⟩
    cases i with
    | zero => exact A.lt
    | succ j => have := (B j (by omega)).lt; rw [show b + (j + 1) = b + 1 + j from by omega]; exact this
  · have := (z_range e1).2; have := (z_range e2).2; omega
  · obtain ⟨h1, rfl⟩ := z_range e1
    cases i with
    | zero =>
      obtain rfl := Option.some.inj (show some (t + 2, false, (List.range N).map fun j => Value.ref (σ.length + 1 + j)) = some c from e2)
      refine ZK.mkA (by show t + 2 ≠ 0; omega) ⟨fun j => .ref (b + 1 + j), ?_, ?_, fun e => by cases e⟩
      · show AR Z h' b (z_ty (t + 2)) ((List.range N).map fun j => Value.ref (σ.length + 1 + j)).length _
        rw [List.length_map, List.length_range]; exact A
      · intro i v e
        obtain ⟨g1, g2⟩ := List.getElem?_eq_some_iff.mp (show ((List.range N).map fun j => Value.ref (σ.length + 1 + j))[i]? = some v from e)
        simp at g1 g2
        subst g2
        refine ⟨b + 1 + i, rfl, Or.inl ?_⟩
        rw [← I.2.1, List.getElem?_append_right (by omega), show ρ.length + 1 + i - ρ.length = i + 1 from by omega, z_range' (by omega)]
        congr 1; omega
    | succ j =>
      have e3 : (List.replicate N ((t, false, List.replicate cap d) : ZC))[j]? = some c := by simpa using e2
      have e4 := List.eq_of_mem_replicate (List.mem_of_getElem? e3)
      subst e4
      rw [show b + (j + 1) = b + 1 + j from by omega]
      exact ZK.ofRep' t1 (B j (by omega)) (kd _)
theorem o_grid1_ok (hw : ∀ d ∈ tables_1, d.before a0 Z = true) (P : Jvm.Own.Pos p l e R s m args below meth c Z own nm bytes maxL ret n0 T h cells slots) (hd : decode bytes pc = .ok (.multianewarray 75 2, 4)) (ho : own = z_DS)  (I : ZI ι Z n0 h ρ σ) (HS : ZR (ZV ι ρ) S st) (rc : cells + dc ≤ R.cells) (rs : slots + ds ≤ R.slots) (q : o_grid 1 (.int 0) S σ = some (S', σ', dc, ds))
    (E : ∀ T h' ρ' st', Jvm.Own.Pos p l e R s m args below meth c Z own nm bytes maxL ret n0 T h' (cells + dc) (slots + ds) → ZI ι Z n0 h' ρ' σ' → (∃ t, ρ' = ρ ++ t) → ZR (ZV ι ρ') S' st' → Jvm.Own.Ends p e below s R n0 Q T (mkF m (pc + 4) Ls st')) : Jvm.Own.Ends p e below s R n0 Q T (mkF m pc Ls st) := by
  subst ho
  obtain ⟨y, q1, q⟩ := z_bnd q
  obtain ⟨x, q2, q⟩ := z_bnd q
  obtain ⟨cap, q3, q⟩ := z_bnd q
  obtain ⟨N, q4, q⟩ := z_bnd q
  obtain ⟨rfl, rfl, rfl, rfl⟩ := z_inj4 q
  have e1 := z_popI_ok q1
  rw [z_popI_ok q2] at e1
  subst e1
  obtain ⟨_, _, rfl, hy, _, _, rfl, hx, hs⟩ := HS
  obtain rfl : _ = Value.int _ := hy
  obtain rfl : _ = Value.int _ := hx
  obtain ⟨hc, c1⟩ := z_ix_ok q3
  obtain ⟨hN, n1⟩ := z_ix_ok q4
  refine gridY P hd (ty := .int) (N := N) (cap := cap) (C := "[I") (ad := "[[I") (by decide) (by decide) (hw _ (List.mem_of_getElem? (i := 62) rfl)) (hw _ (List.mem_of_getElem? (i := 14) rfl)) (hw _ (List.mem_of_getElem? (i := 3) rfl)) hN hc ⟨by omega, by omega⟩ (by decide) ⟨rc, rs⟩ rfl ?_
  intro T h' b P X gb lo A B
  refine E T h' _ _ P (z_grid (by decide) I X gb A B (fun _ => rfl)) ⟨_, rfl⟩ (ZR.cons ?_ (ZR.mono (fun _ _ => ZV.mono) hs))
  exact ⟨b, rfl, Or.inl (by rw [← I.2.1, List.getElem?_append_right (Nat.le_refl _), Nat.sub_self, z_range' (by omega)]; rfl)⟩
theorem o_grid2_ok (hw : ∀ d ∈ tables_1, d.before a0 Z = true) (P : Jvm.Own.Pos p l e R s m args below meth c Z own nm bytes maxL ret n0 T h cells slots) (hd : decode bytes pc = .ok (.multianewarray 36 2, 4)) (ho : own = z_DS)  (I : ZI ι Z n0 h ρ σ) (HS : ZR (ZV ι ρ) S st) (rc : cells + dc ≤ R.cells) (rs : slots + ds ≤ R.slots) (q : o_grid 2 (.double 0) S σ = some (S', σ', dc, ds))
    (E : ∀ T h' ρ' st', Jvm.Own.Pos p l e R s m args below meth c Z own nm bytes maxL ret n0 T h' (cells + dc) (slots + ds) → ZI ι Z n0 h' ρ' σ' → (∃ t, ρ' = ρ ++ t) → ZR (ZV ι ρ') S' st' → Jvm.Own.Ends p e below s R n0 Q T (mkF m (pc + 4) Ls st')) : Jvm.Own.Ends p e below s R n0 Q T (mkF m pc Ls st) := by
  subst ho
  obtain ⟨y, q1, q⟩ := z_bnd q
  obtain ⟨x, q2, q⟩ := z_bnd q
  obtain ⟨cap, q3, q⟩ := z_bnd q
  obtain ⟨N, q4, q⟩ := z_bnd q
  obtain ⟨rfl, rfl, rfl, rfl⟩ := z_inj4 q
  have e1 := z_popI_ok q1
  rw [z_popI_ok q2] at e1
  subst e1
  obtain ⟨_, _, rfl, hy, _, _, rfl, hx, hs⟩ := HS
  obtain rfl : _ = Value.int _ := hy
  obtain rfl : _ = Value.int _ := hx
  obtain ⟨hc, c1⟩ := z_ix_ok q3
  obtain ⟨hN, n1⟩ := z_ix_ok q4
  refine gridY P hd (ty := .double) (N := N) (cap := cap) (C := "[D") (ad := "[[D") (by decide) (by decide) (hw _ (List.mem_of_getElem? (i := 31) rfl)) (hw _ (List.mem_of_getElem? (i := 18) rfl)) (hw _ (List.mem_of_getElem? (i := 0) rfl)) hN hc ⟨by omega, by omega⟩ (by decide) ⟨rc, rs⟩ rfl ?_
  intro T h' b P X gb lo A B
  refine E T h' _ _ P (z_grid (by decide) I X gb A B (fun _ => rfl)) ⟨_, rfl⟩ (ZR.cons ?_ (ZR.mono (fun _ _ => ZV.mono) hs))
  exact ⟨b, rfl, Or.inl (by rw [← I.2.1, List.getElem?_append_right (Nat.le_refl _), Nat.sub_self, z_range' (by omega)]; rfl)⟩
theorem o_cast_ok (hw : ∀ d ∈ tables_1, d.before a0 Z = true) (P : Jvm.Own.Pos p l e R s m args below meth c Z own nm bytes maxL ret n0 T h cells slots) (hd : decode bytes pc = .ok (.checkcast ix, 3)) (ho : own = z_DS)  (I : ZI ι Z n0 h ρ σ) (HS : ZR (ZV ι ρ) S st) (rc : cells + dc ≤ R.cells) (rs : slots + ds ≤ R.slots) (q : o_cast ix S σ = some (S', σ', dc, ds))
    (E : ∀ T h' ρ' st', Jvm.Own.Pos p l e R s m args below meth c Z own nm bytes maxL ret n0 T h' (cells + dc) (slots + ds) → ZI ι Z n0 h' ρ' σ' → (∃ t, ρ' = ρ ++ t) → ZR (ZV ι ρ') S' st' → Jvm.Own.Ends p e below s R n0 Q T (mkF m (pc + 3) Ls st')) : Jvm.Own.Ends p e below s R n0 Q T (mkF m pc Ls st) := by
  subst ho
  obtain ⟨r, q1, q⟩ := z_bnd q
  obtain ⟨cl, q2, q⟩ := z_bnd q
  obtain ⟨⟨fu, tt⟩, q⟩ := z_gdd q
  obtain ⟨rfl, rfl, rfl, rfl⟩ := z_inj4 q
  have e1 := z_popR_ok q1
  subst e1
  obtain ⟨_, _, rfl, ⟨x, rfl, hx⟩, hs⟩ := HS
  obtain ⟨C, lo, hr⟩ := I.at q2 hx
  rcases tt with ⟨rfl, c1⟩ | ⟨rfl, c1⟩
  · obtain ⟨g, A, K, X⟩ := C.arr (by rw [c1]; decide)
    have YY : Exa Z h x "[I" := by have := X fu; rw [c1] at this; exact this
    exact castX P hd (hw _ (List.mem_of_getElem? (i := 13) rfl)) (Ins.of_exa YY (hw _ (List.mem_of_getElem? (i := 106) rfl))) rfl fun T P => E T h ρ _ P I ⟨[], (List.append_nil _).symm⟩ (ZR.cons ⟨x, rfl, hx⟩ hs)
  · obtain ⟨g, A, K, X⟩ := C.arr (by rw [c1]; decide)
    have YY : Exa Z h x "[D" := by have := X fu; rw [c1] at this; exact this
    exact castX P hd (hw _ (List.mem_of_getElem? (i := 17) rfl)) (Ins.of_exa YY (hw _ (List.mem_of_getElem? (i := 47) rfl))) rfl fun T P => E T h ρ _ P I ⟨[], (List.append_nil _).symm⟩ (ZR.cons ⟨x, rfl, hx⟩ hs)
theorem o_sta_ok (hw : ∀ d ∈ tables_1, d.before a0 Z = true) (P : Jvm.Own.Pos p l e R s m args below meth c Z own nm bytes maxL ret n0 T h cells slots) (hd : decode bytes pc = .ok (.getstatic ix, 3)) (ho : own = z_DS) (SO : ∃ so : Addr, Sta Z Z.heap "com/example/hertzbid/hertzbid/mechanisms/DualSimplex$Status" "OPTIMAL" "Lcom/example/hertzbid/hertzbid/mechanisms/DualSimplex$Status;" (.ref so)) (SI : ∃ so : Addr, Sta Z Z.heap "com/example/hertzbid/hertzbid/mechanisms/DualSimplex$Status" "ITERATION_LIMIT" "Lcom/example/hertzbid/hertzbid/mechanisms/DualSimplex$Status;" (.ref so)) (I : ZI ι Z n0 h ρ σ) (HS : ZR (ZV ι ρ) S st) (rc : cells + dc ≤ R.cells) (rs : slots + ds ≤ R.slots) (q : o_sta ix S σ = some (S', σ', dc, ds))
    (E : ∀ T h' ρ' st', Jvm.Own.Pos p l e R s m args below meth c Z own nm bytes maxL ret n0 T h' (cells + dc) (slots + ds) → ZI ι Z n0 h' ρ' σ' → (∃ t, ρ' = ρ ++ t) → ZR (ZV ι ρ') S' st' → Jvm.Own.Ends p e below s R n0 Q T (mkF m (pc + 3) Ls st')) : Jvm.Own.Ends p e below s R n0 Q T (mkF m pc Ls st) := by
  subst ho
  obtain ⟨tt, q⟩ := z_gdd q
  obtain ⟨rfl, rfl, rfl, rfl⟩ := z_inj4 q
  rcases tt with rfl | rfl
  · obtain ⟨so, SO⟩ := SO
    exact getS P hd (hw _ (List.mem_of_getElem? (i := 212) rfl)) (Sta.ext I.1.2 SO) rfl fun T P => E T h ρ _ P I ⟨[], (List.append_nil _).symm⟩ (ZR.cons ⟨so, rfl, Or.inr rfl⟩ HS)
  · obtain ⟨so, SO⟩ := SI
    exact getS P hd (hw _ (List.mem_of_getElem? (i := 216) rfl)) (Sta.ext I.1.2 SO) rfl fun T P => E T h ρ _ P I ⟨[], (List.append_nil _).symm⟩ (ZR.cons ⟨so, rfl, Or.inr rfl⟩ HS)
def z_cn : Nat → String
  | 0 => "com/example/hertzbid/hertzbid/mechanisms/DualSimplexSetBoundsPinLaw"
  | 1 => z_DS
  | _ => "java/util/Arrays"
def z_kc : Nat → Nat → Option Value
  | 0, 11 => some (.double (13842939354630062080))
  | 0, 13 => some (.double (4621256167635550208))
  | 0, 7 => some (.double (13835058055282163712))
  | 0, 9 => some (.double (4611686018427387904))
  | 0, 24 => some (.long (10))
  | 1, 145 => some (.double (9218868437227405312))
  | 1, 156 => some (.int (-2147483648))
  | 1, 196 => some (.double (4502148214488346440))
  | 1, 133 => some (.double (4472406533629990549))
  | 1, 200 => some (.double (13830554455654793216))
  | 1, 244 => some (.double (13695778570484766357))
  | _, _ => none
theorem z_kc_ok (hw : ∀ d ∈ tables_1, d.before a0 Z = true) {c ix : Nat} {v : Value} (q : z_kc c ix = some v) : (∃ x, v = .int x ∧ (Cond.constant (z_cn c) ix x).before a0 Z = true) ∨ (∃ x, v = .long x ∧ (Cond.constantLong (z_cn c) ix x).before a0 Z = true) ∨ (∃ x, v = .double x ∧ (Cond.constantDouble (z_cn c) ix x).before a0 Z = true) := by
  unfold z_kc at q
  split at q
  · cases q; exact Or.inr (Or.inr ⟨_, rfl, hw _ (List.mem_of_getElem? (i := 1) rfl)⟩)
  · cases q; exact Or.inr (Or.inr ⟨_, rfl, hw _ (List.mem_of_getElem? (i := 2) rfl)⟩)
  · cases q; exact Or.inr (Or.inr ⟨_, rfl, hw _ (List.mem_of_getElem? (i := 93) rfl)⟩)
  · cases q; exact Or.inr (Or.inr ⟨_, rfl, hw _ (List.mem_of_getElem? (i := 94) rfl)⟩)
  · cases q; exact Or.inr (Or.inl ⟨_, rfl, hw _ (List.mem_of_getElem? (i := 111) rfl)⟩)
  · cases q; exact Or.inr (Or.inr ⟨_, rfl, hw _ (List.mem_of_getElem? (i := 135) rfl)⟩)
  · cases q; exact Or.inl ⟨_, rfl, hw _ (List.mem_of_getElem? (i := 140) rfl)⟩
  · cases q; exact Or.inr (Or.inr ⟨_, rfl, hw _ (List.mem_of_getElem? (i := 141) rfl)⟩)
  · cases q; exact Or.inr (Or.inr ⟨_, rfl, hw _ (List.mem_of_getElem? (i := 165) rfl)⟩)
  · cases q; exact Or.inr (Or.inr ⟨_, rfl, hw _ (List.mem_of_getElem? (i := 207) rfl)⟩)
  · cases q; exact Or.inr (Or.inr ⟨_, rfl, hw _ (List.mem_of_getElem? (i := 215) rfl)⟩)
  · cases q
def o_ldc (c ix : Nat) (S : List Value) (σ : List ZC) : Option (List Value × List ZC × Nat × Nat) := (z_kc c ix).bind fun v => z_gd (z_okI v = true) (some (v :: S, σ, 0, 0))
def o_ldc2 (c ix : Nat) (S : List Value) (σ : List ZC) : Option (List Value × List ZC × Nat × Nat) := (z_kc c ix).bind fun v => z_gd (z_okI v = false) (some (v :: S, σ, 0, 0))
theorem o_ldc_ok (hw : ∀ d ∈ tables_1, d.before a0 Z = true) (P : Jvm.Own.Pos p l e R s m args below meth c Z own nm bytes maxL ret n0 T h cells slots) (hd : decode bytes pc = .ok (.ldc ix, 2)) {k : Nat} (hc : own = z_cn k) (I : ZI ι Z n0 h ρ σ) (HS : ZR (ZV ι ρ) S st) (rc : cells + dc ≤ R.cells) (rs : slots + ds ≤ R.slots) (q : o_ldc k ix S σ = some (S', σ', dc, ds))
    (E : ∀ T h' ρ' st', Jvm.Own.Pos p l e R s m args below meth c Z own nm bytes maxL ret n0 T h' (cells + dc) (slots + ds) → ZI ι Z n0 h' ρ' σ' → (∃ t, ρ' = ρ ++ t) → ZR (ZV ι ρ') S' st' → Jvm.Own.Ends p e below s R n0 Q T (mkF m (pc + 2) Ls st')) : Jvm.Own.Ends p e below s R n0 Q T (mkF m pc Ls st) := by
  obtain ⟨v, q1, q⟩ := z_bnd q
  obtain ⟨o, q⟩ := z_gdd q
  obtain ⟨rfl, rfl, rfl, rfl⟩ := z_inj4 q
  subst hc
  rcases z_kc_ok hw q1 with ⟨x, rfl, w⟩ | ⟨x, rfl, w⟩ | ⟨x, rfl, w⟩
  · exact ldcI P hd w rfl (E T h ρ _ P I ⟨[], (List.append_nil _).symm⟩ (ZR.cons rfl HS))
  · cases o
  · cases o
theorem o_ldc2_ok (hw : ∀ d ∈ tables_1, d.before a0 Z = true) (P : Jvm.Own.Pos p l e R s m args below meth c Z own nm bytes maxL ret n0 T h cells slots) (hd : decode bytes pc = .ok (.ldc2_w ix, 3)) {k : Nat} (hc : own = z_cn k) (I : ZI ι Z n0 h ρ σ) (HS : ZR (ZV ι ρ) S st) (rc : cells + dc ≤ R.cells) (rs : slots + ds ≤ R.slots) (q : o_ldc2 k ix S σ = some (S', σ', dc, ds))
    (E : ∀ T h' ρ' st', Jvm.Own.Pos p l e R s m args below meth c Z own nm bytes maxL ret n0 T h' (cells + dc) (slots + ds) → ZI ι Z n0 h' ρ' σ' → (∃ t, ρ' = ρ ++ t) → ZR (ZV ι ρ') S' st' → Jvm.Own.Ends p e below s R n0 Q T (mkF m (pc + 3) Ls st')) : Jvm.Own.Ends p e below s R n0 Q T (mkF m pc Ls st) := by
  obtain ⟨v, q1, q⟩ := z_bnd q
  obtain ⟨o, q⟩ := z_gdd q
  obtain ⟨rfl, rfl, rfl, rfl⟩ := z_inj4 q
  subst hc
  rcases z_kc_ok hw q1 with ⟨x, rfl, w⟩ | ⟨x, rfl, w⟩ | ⟨x, rfl, w⟩
  · cases o
  · exact ldc2J P hd w rfl (E T h ρ _ P I ⟨[], (List.append_nil _).symm⟩ (ZR.cons rfl HS))
  · exact ldc2D P hd w rfl (E T h ρ _ P I ⟨[], (List.append_nil _).symm⟩ (ZR.cons rfl HS))
theorem o_obj_ok (hw : ∀ d ∈ tables_1, d.before a0 Z = true) (P : Jvm.Own.Pos p l e R s m args below meth c Z own nm bytes maxL ret n0 T h cells slots) (hd : decode bytes pc = .ok (.new 15, 3)) (hc : own = z_cn 0) (I : ZI ι Z n0 h ρ σ) (HS : ZR (ZV ι ρ) S st) (rc : cells + dc ≤ R.cells) (rs : slots + ds ≤ R.slots) (q : o_obj S σ = some (S', σ', dc, ds))
    (E : ∀ T h' ρ' st', Jvm.Own.Pos p l e R s m args below meth c Z own nm bytes maxL ret n0 T h' (cells + dc) (slots + ds) → ZI ι Z n0 h' ρ' σ' → (∃ t, ρ' = ρ ++ t) → ZR (ZV ι ρ') S' st' → Jvm.Own.Ends p e below s R n0 Q T (mkF m (pc + 3) Ls st')) : Jvm.Own.Ends p e below s R n0 Q T (mkF m pc Ls st) := by
  obtain ⟨rfl, rfl, rfl, rfl⟩ := z_inj4 q
  subst hc
  refine newO P hd (hw _ (List.mem_of_getElem? (i := 4) rfl)) (hw _ (List.mem_of_getElem? (i := 5) rfl)) (hw _ (List.mem_of_getElem? (i := 6) rfl)) rc rs rfl ?_
  intro T h' b P X gb lo E0 D0
  refine E T h' (ρ ++ [b]) _ P (I.push X gb (ZK.mkO rfl ⟨E0, rfl, ?_⟩)) ⟨_, rfl⟩ (ZR.cons I.last (ZR.mono (fun _ _ => ZV.mono) HS))
  intro f v e1
  have fl : f < 24 := by have := z_lt e1; exact this
  refine ⟨defaultValue (z_fty f), ?_, D0 (z_laid hw f fl) (z_parse f fl)⟩
  rcases z_app_get (show (List.replicate 4 (.int 0) ++ List.replicate 20 Value.null)[f]? = some v from e1) with e2 | ⟨g2, e2⟩
  · rw [List.eq_of_mem_replicate (List.mem_of_getElem? e2)]; have := z_lt e2; unfold z_fty; rw [if_pos (by simpa using this)]; rfl
  · rw [List.eq_of_mem_replicate (List.mem_of_getElem? e2)]; unfold z_fty; rw [if_neg (by have : 4 ≤ f := (by simpa using g2); omega)]; rfl
theorem o_init_ok (hw : ∀ d ∈ tables_1, d.before a0 Z = true) (P : Jvm.Own.Pos p l e R s m args below meth c Z own nm bytes maxL ret n0 T h cells slots) (hd : decode bytes pc = .ok (.invokespecial 1, 3)) (ho : own = z_DS) (hsz : Ls.size = maxL) (hF : F ≤ R.frames) (hN : N ≤ R.locals) (I : ZI ι Z n0 h ρ σ) (HS : ZR (ZV ι ρ) S st) (rc : cells + dc ≤ R.cells) (rs : slots + ds ≤ R.slots) (q : o_init F N S σ = some (S', σ', dc, ds))
    (E : ∀ T h' ρ' st', Jvm.Own.Pos p l e R s m args below meth c Z own nm bytes maxL ret n0 T h' (cells + dc) (slots + ds) → ZI ι Z n0 h' ρ' σ' → (∃ t, ρ' = ρ ++ t) → ZR (ZV ι ρ') S' st' → Jvm.Own.Ends p e below s R n0 Q T (mkF m (pc + 3) Ls st')) : Jvm.Own.Ends p e below s R n0 Q T (mkF m pc Ls st) := by
  subst ho
  obtain ⟨r, q1, q⟩ := z_bnd q
  obtain ⟨⟨f1, f2⟩, q⟩ := z_gdd q
  obtain ⟨rfl, rfl, rfl, rfl⟩ := z_inj4 q
  have e1 := z_popR_ok q1
  subst e1
  obtain ⟨_, _, rfl, ⟨x, rfl, hx⟩, hs⟩ := HS
  exact initO P hd (hw _ (List.mem_of_getElem? (i := 10) rfl)) (hw _ (List.mem_of_getElem? (i := 11) rfl)) (hw _ (List.mem_of_getElem? (i := 12) rfl)) hsz (by omega) (by rw [z_sum hs]; omega) rfl fun T P => E T h ρ _ P I ⟨[], (List.append_nil _).symm⟩ hs
theorem o_clone2_ok (hw : ∀ d ∈ tables_1, d.before a0 Z = true) (P : Jvm.Own.Pos p l e R s m args below meth c Z own nm bytes maxL ret n0 T h cells slots) (hd : decode bytes pc = .ok (.invokevirtual 50, 3)) (ho : own = z_DS) (hsz : Ls.size = maxL) (hF : F ≤ R.frames) (hN : N ≤ R.locals) (I : ZI ι Z n0 h ρ σ) (HS : ZR (ZV ι ρ) S st) (rc : cells + dc ≤ R.cells) (rs : slots + ds ≤ R.slots) (q : o_clone 2 F N z_okD S σ = some (S', σ', dc, ds))
    (E : ∀ T h' ρ' st', Jvm.Own.Pos p l e R s m args below meth c Z own nm bytes maxL ret n0 T h' (cells + dc) (slots + ds) → ZI ι Z n0 h' ρ' σ' → (∃ t, ρ' = ρ ++ t) → ZR (ZV ι ρ') S' st' → Jvm.Own.Ends p e below s R n0 Q T (mkF m (pc + 3) Ls st')) : Jvm.Own.Ends p e below s R n0 Q T (mkF m pc Ls st) := by
  subst ho
  obtain ⟨r, q1, q⟩ := z_bnd q
  obtain ⟨cl, q2, q⟩ := z_bnd q
  obtain ⟨⟨tt, fu, al, f1, f2⟩, q⟩ := z_gdd q
  obtain ⟨rfl, rfl, rfl, rfl⟩ := z_inj4 q
  have e1 := z_popR_ok q1
  subst e1
  obtain ⟨_, _, rfl, ⟨x, rfl, hx⟩, hs⟩ := HS
  obtain ⟨C, lo, hr⟩ := I.at q2 hx
  have t0 : cl.1 ≠ 0 := by rw [tt]; decide
  obtain ⟨g, A, K, X⟩ := C.arr t0
  have Y : Exa Z h x "[D" := by have := X fu; rw [tt] at this; exact this
  rw [tt] at A
  refine z_clone P hd (ad := "[D") (cap := cl.2.2.length) (hw _ (List.mem_of_getElem? (i := 40) rfl)) (hw _ (List.mem_of_getElem? (i := 41) rfl)) (hw _ (List.mem_of_getElem? (i := 45) rfl)) (hw _ (List.mem_of_getElem? (i := 43) rfl)) (hw _ (List.mem_of_getElem? (i := 44) rfl)) (hw _ (List.mem_of_getElem? (i := 46) rfl)) A (z_fitsD K al) Y hsz (by omega) (by rw [z_sum hs]; omega) (Nat.le_refl _) ⟨rc, rs⟩ rfl ?_
  intro T h' b P X2 gb lo2 A2 E2
  refine E T h' (ρ ++ [b]) _ P (I.push X2 gb (ZK.mkA t0 ⟨g, ?_, fun i v e2 => (K i v e2).mono, fun _ => ?_⟩)) ⟨_, rfl⟩ (ZR.cons I.last (ZR.mono (fun _ _ => ZV.mono) hs))
  · rw [tt]; exact A2
  · rw [tt]; exact E2
theorem o_clone1_ok (hw : ∀ d ∈ tables_1, d.before a0 Z = true) (P : Jvm.Own.Pos p l e R s m args below meth c Z own nm bytes maxL ret n0 T h cells slots) (hd : decode bytes pc = .ok (.invokevirtual 104, 3)) (ho : own = z_DS) (hsz : Ls.size = maxL) (hF : F ≤ R.frames) (hN : N ≤ R.locals) (I : ZI ι Z n0 h ρ σ) (HS : ZR (ZV ι ρ) S st) (rc : cells + dc ≤ R.cells) (rs : slots + ds ≤ R.slots) (q : o_clone 1 F N z_okI S σ = some (S', σ', dc, ds))
    (E : ∀ T h' ρ' st', Jvm.Own.Pos p l e R s m args below meth c Z own nm bytes maxL ret n0 T h' (cells + dc) (slots + ds) → ZI ι Z n0 h' ρ' σ' → (∃ t, ρ' = ρ ++ t) → ZR (ZV ι ρ') S' st' → Jvm.Own.Ends p e below s R n0 Q T (mkF m (pc + 3) Ls st')) : Jvm.Own.Ends p e below s R n0 Q T (mkF m pc Ls st) := by
  subst ho
  obtain ⟨r, q1, q⟩ := z_bnd q
  obtain ⟨cl, q2, q⟩ := z_bnd q
  obtain ⟨⟨tt, fu, al, f1, f2⟩, q⟩ := z_gdd q
  obtain ⟨rfl, rfl, rfl, rfl⟩ := z_inj4 q
  have e1 := z_popR_ok q1
  subst e1
  obtain ⟨_, _, rfl, ⟨x, rfl, hx⟩, hs⟩ := HS
  obtain ⟨C, lo, hr⟩ := I.at q2 hx
  have t0 : cl.1 ≠ 0 := by rw [tt]; decide
  obtain ⟨g, A, K, X⟩ := C.arr t0
  have Y : Exa Z h x "[I" := by have := X fu; rw [tt] at this; exact this
  rw [tt] at A
  refine z_clone P hd (ad := "[I") (cap := cl.2.2.length) (hw _ (List.mem_of_getElem? (i := 102) rfl)) (hw _ (List.mem_of_getElem? (i := 103) rfl)) (hw _ (List.mem_of_getElem? (i := 45) rfl)) (hw _ (List.mem_of_getElem? (i := 43) rfl)) (hw _ (List.mem_of_getElem? (i := 104) rfl)) (hw _ (List.mem_of_getElem? (i := 105) rfl)) A (z_fitsI K al) Y hsz (by omega) (by rw [z_sum hs]; omega) (Nat.le_refl _) ⟨rc, rs⟩ rfl ?_
  intro T h' b P X2 gb lo2 A2 E2
  refine E T h' (ρ ++ [b]) _ P (I.push X2 gb (ZK.mkA t0 ⟨g, ?_, fun i v e2 => (K i v e2).mono, fun _ => ?_⟩)) ⟨_, rfl⟩ (ZR.cons I.last (ZR.mono (fun _ _ => ZV.mono) hs))
  · rw [tt]; exact A2
  · rw [tt]; exact E2
theorem o_abs_ok (hw : ∀ d ∈ tables_1, d.before a0 Z = true) (P : Jvm.Own.Pos p l e R s m args below meth c Z own nm bytes maxL ret n0 T h cells slots) (hd : decode bytes pc = .ok (.invokestatic 130, 3)) (ho : own = z_DS) (hsz : Ls.size = maxL) (hF : F ≤ R.frames) (hN : N ≤ R.locals) (I : ZI ι Z n0 h ρ σ) (HS : ZR (ZV ι ρ) S st) (rc : cells + dc ≤ R.cells) (rs : slots + ds ≤ R.slots) (q : o_abs F N S σ = some (S', σ', dc, ds))
    (E : ∀ T h' ρ' st', Jvm.Own.Pos p l e R s m args below meth c Z own nm bytes maxL ret n0 T h' (cells + dc) (slots + ds) → ZI ι Z n0 h' ρ' σ' → (∃ t, ρ' = ρ ++ t) → ZR (ZV ι ρ') S' st' → Jvm.Own.Ends p e below s R n0 Q T (mkF m (pc + 3) Ls st')) : Jvm.Own.Ends p e below s R n0 Q T (mkF m pc Ls st) := by
  subst ho
  obtain ⟨x, q1, q⟩ := z_bnd q
  obtain ⟨⟨hv, f1, f2⟩, q⟩ := z_gdd q
  obtain ⟨rfl, rfl, rfl, rfl⟩ := z_inj4 q
  have e1 := z_popD_ok q1
  subst e1
  obtain ⟨_, _, rfl, hx, hs⟩ := HS
  obtain rfl : _ = Value.double _ := hx
  exact absD P hd (hw _ (List.mem_of_getElem? (i := 166) rfl)) (hw _ (List.mem_of_getElem? (i := 167) rfl)) (hw _ (List.mem_of_getElem? (i := 168) rfl)) (hw _ (List.mem_of_getElem? (i := 169) rfl)) hsz ⟨by omega, by rw [z_sum hs]; omega, rc, rs⟩ ⟨hv, rfl⟩ rfl fun T P => E T h ρ _ P I ⟨[], (List.append_nil _).symm⟩ (ZR.cons rfl hs)
theorem o_min_ok (hw : ∀ d ∈ tables_1, d.before a0 Z = true) (P : Jvm.Own.Pos p l e R s m args below meth c Z own nm bytes maxL ret n0 T h cells slots) (hd : decode bytes pc = .ok (.invokestatic 241, 3)) (ho : own = z_DS) (hsz : Ls.size = maxL) (hF : F ≤ R.frames) (hN : N ≤ R.locals) (I : ZI ι Z n0 h ρ σ) (HS : ZR (ZV ι ρ) S st) (rc : cells + dc ≤ R.cells) (rs : slots + ds ≤ R.slots) (q : o_mm false F N S σ = some (S', σ', dc, ds))
    (E : ∀ T h' ρ' st', Jvm.Own.Pos p l e R s m args below meth c Z own nm bytes maxL ret n0 T h' (cells + dc) (slots + ds) → ZI ι Z n0 h' ρ' σ' → (∃ t, ρ' = ρ ++ t) → ZR (ZV ι ρ') S' st' → Jvm.Own.Ends p e below s R n0 Q T (mkF m (pc + 3) Ls st')) : Jvm.Own.Ends p e below s R n0 Q T (mkF m pc Ls st) := by
  subst ho
  obtain ⟨y, q1, q⟩ := z_bnd q
  obtain ⟨x, q2, q⟩ := z_bnd q
  obtain ⟨⟨hv, f1, f2⟩, q⟩ := z_gdd q
  obtain ⟨rfl, rfl, rfl, rfl⟩ := z_inj4 q
  have e1 := z_popD_ok q1
  rw [z_popD_ok q2] at e1
  subst e1
  obtain ⟨_, _, rfl, hy, _, _, rfl, hx, hs⟩ := HS
  obtain rfl : _ = Value.double _ := hy
  obtain rfl : _ = Value.double _ := hx
  exact minD P hd (hw _ (List.mem_of_getElem? (i := 170) rfl)) (hw _ (List.mem_of_getElem? (i := 171) rfl)) (hw _ (List.mem_of_getElem? (i := 168) rfl)) (hw _ (List.mem_of_getElem? (i := 172) rfl)) hsz ⟨by omega, by rw [z_sum hs]; omega, rc, rs⟩ hv rfl rfl fun T P => E T h ρ _ P I ⟨[], (List.append_nil _).symm⟩ (ZR.cons rfl hs)
theorem o_max_ok (hw : ∀ d ∈ tables_1, d.before a0 Z = true) (P : Jvm.Own.Pos p l e R s m args below meth c Z own nm bytes maxL ret n0 T h cells slots) (hd : decode bytes pc = .ok (.invokestatic 206, 3)) (ho : own = z_DS) (hsz : Ls.size = maxL) (hF : F ≤ R.frames) (hN : N ≤ R.locals) (I : ZI ι Z n0 h ρ σ) (HS : ZR (ZV ι ρ) S st) (rc : cells + dc ≤ R.cells) (rs : slots + ds ≤ R.slots) (q : o_mm true F N S σ = some (S', σ', dc, ds))
    (E : ∀ T h' ρ' st', Jvm.Own.Pos p l e R s m args below meth c Z own nm bytes maxL ret n0 T h' (cells + dc) (slots + ds) → ZI ι Z n0 h' ρ' σ' → (∃ t, ρ' = ρ ++ t) → ZR (ZV ι ρ') S' st' → Jvm.Own.Ends p e below s R n0 Q T (mkF m (pc + 3) Ls st')) : Jvm.Own.Ends p e below s R n0 Q T (mkF m pc Ls st) := by
  subst ho
  obtain ⟨y, q1, q⟩ := z_bnd q
  obtain ⟨x, q2, q⟩ := z_bnd q
  obtain ⟨⟨hv, f1, f2⟩, q⟩ := z_gdd q
  obtain ⟨rfl, rfl, rfl, rfl⟩ := z_inj4 q
  have e1 := z_popD_ok q1
  rw [z_popD_ok q2] at e1
  subst e1
  obtain ⟨_, _, rfl, hy, _, _, rfl, hx, hs⟩ := HS
  obtain rfl : _ = Value.double _ := hy
  obtain rfl : _ = Value.double _ := hx
  exact maxD P hd (hw _ (List.mem_of_getElem? (i := 204) rfl)) (hw _ (List.mem_of_getElem? (i := 205) rfl)) (hw _ (List.mem_of_getElem? (i := 168) rfl)) (hw _ (List.mem_of_getElem? (i := 206) rfl)) hsz ⟨by omega, by rw [z_sum hs]; omega, rc, rs⟩ hv rfl rfl fun T P => E T h ρ _ P I ⟨[], (List.append_nil _).symm⟩ (ZR.cons rfl hs)
theorem o_acp_ok (hw : ∀ d ∈ tables_1, d.before a0 Z = true) (P : Jvm.Own.Pos p l e R s m args below meth c Z own nm bytes maxL ret n0 T h cells slots) (hd : decode bytes pc = .ok (.invokestatic 258, 3)) (ho : own = z_DS) (hsz : Ls.size = maxL) (hF : F ≤ R.frames) (hN : N ≤ R.locals) (I : ZI ι Z n0 h ρ σ) (HS : ZR (ZV ι ρ) S st) (rc : cells + dc ≤ R.cells) (rs : slots + ds ≤ R.slots) (q : o_acp F N S σ = some (S', σ', dc, ds))
    (E : ∀ T h' ρ' st', Jvm.Own.Pos p l e R s m args below meth c Z own nm bytes maxL ret n0 T h' (cells + dc) (slots + ds) → ZI ι Z n0 h' ρ' σ' → (∃ t, ρ' = ρ ++ t) → ZR (ZV ι ρ') S' st' → Jvm.Own.Ends p e below s R n0 Q T (mkF m (pc + 3) Ls st')) : Jvm.Own.Ends p e below s R n0 Q T (mkF m pc Ls st) := by
  subst ho
  obtain ⟨nn, q1, q⟩ := z_bnd q
  obtain ⟨dp, q2, q⟩ := z_bnd q
  obtain ⟨bb, q3, q⟩ := z_bnd q
  obtain ⟨sp, q4, q⟩ := z_bnd q
  obtain ⟨a, q5, q⟩ := z_bnd q
  obtain ⟨ca, q6, q⟩ := z_bnd q
  obtain ⟨cb, q7, q⟩ := z_bnd q
  obtain ⟨n, q8, q⟩ := z_bnd q
  obtain ⟨d, q9, q⟩ := z_bnd q
  obtain ⟨t, q10, q⟩ := z_bnd q
  obtain ⟨⟨ta, tb, la, lb, k1, k2, f1, f2⟩, q⟩ := z_gdd q
  obtain ⟨rfl, rfl, rfl, rfl⟩ := z_inj4 q
  have e1 := z_popI_ok q1
  rw [z_popI_ok q2] at e1
  rw [z_popR_ok q3] at e1
  rw [z_popI_ok q4] at e1
  rw [z_popR_ok q5] at e1
  subst e1
  obtain ⟨_, _, rfl, h1, _, _, rfl, h2, _, _, rfl, ⟨xb, rfl, hxb⟩, _, _, rfl, h3, _, _, rfl, ⟨xa, rfl, hxa⟩, hs⟩ := HS
  obtain rfl : _ = Value.int _ := h1
  obtain rfl : _ = Value.int _ := h2
  obtain rfl : _ = Value.int _ := h3
  obtain ⟨CA, loa, hra⟩ := I.at q6 hxa
  obtain ⟨CB, lob, hrb⟩ := I.at q7 hxb
  obtain ⟨ga, A, KA, -⟩ := CA.arr (by rw [ta]; decide)
  have t0 : cb.1 ≠ 0 := by rw [tb]; decide
  obtain ⟨gb, B, KB, -⟩ := CB.arr t0
  rw [ta] at A
  rw [tb] at B
  have wd : nativeFrameWords "java/lang/System" "arraycopy" 5 + 11 = 18 := by decide +kernel
  refine acopyT P hd (hw _ (List.mem_of_getElem? (i := 131) rfl)) (hw _ (List.mem_of_getElem? (i := 134) rfl)) (hw _ (List.mem_of_getElem? (i := 132) rfl)) (hw _ (List.mem_of_getElem? (i := 133) rfl)) (ty := .double) rfl A B (z_fitsD KA la) (z_fitsD KB lb) (S := t) (D := d) (N := n) ⟨(z_ix_ok q10).1, (z_ix_ok q9).1, (z_ix_ok q8).1⟩ k1 k2 lob hsz ⟨by omega, by rw [z_sum hs, wd]; omega⟩ rfl ?_
  intro T h' P K B'
  refine E T h' ρ _ P (I.upd hrb (I.1.keep K (allS lob all0)) K.1 (fun y cc ne e2 => K.2.1 y cc e2 (ninS ne nin0)) (ZK.mkA t0 ⟨fun i => if d ≤ i ∧ i < d + n then ga (t + (i - d)) else gb i, ?_, ?_, fun e => by cases e⟩)) ⟨[], (List.append_nil _).symm⟩ hs
  · show AR Z h' xb (z_ty cb.1) (z_acp ca.2.2 cb.2.2 t d n).length _
    rw [show (z_acp ca.2.2 cb.2.2 t d n).length = cb.2.2.length from by simp [z_acp], tb]; exact B'
  · intro i v e2
    have e3 : ((List.range cb.2.2.length).map fun i => if d ≤ i ∧ i < d + n then ca.2.2.getD (t + (i - d)) .null else cb.2.2.getD i .null)[i]? = some v := e2
    obtain ⟨g1, g2⟩ := List.getElem?_eq_some_iff.mp e3
    simp only [List.length_map, List.length_range] at g1
    simp only [List.getElem_map, List.getElem_range] at g2
    subst g2
    show ZV ι ρ _ (if d ≤ i ∧ i < d + n then ga (t + (i - d)) else gb i)
    by_cases cc : d ≤ i ∧ i < d + n
    · rw [if_pos cc, if_pos cc]; refine KA _ _ ?_; rw [List.getD_eq_getElem?_getD, List.getElem?_eq_getElem (by omega)]; rfl
    · rw [if_neg cc, if_neg cc]; refine KB _ _ ?_; rw [List.getD_eq_getElem?_getD, List.getElem?_eq_getElem g1]; rfl
end Heap
def z_bd : Nat → Nat × MethodName × ByteArray × Nat × Option FieldType
  | 0 => (0, x, code, maxLocals, ret)
  | 1 => (1, (⟨"com/example/hertzbid/hertzbid/mechanisms/DualSimplex", "<init>", "([D[D[D)V"⟩ : MethodName), prog_4_method_1_code, 5, none)
  | 3 => (2, (⟨"java/util/Arrays", "fill", "([II)V"⟩ : MethodName), jdk_65_method_103_code, 4, none)
  | 4 => (1, (⟨"com/example/hertzbid/hertzbid/mechanisms/DualSimplex", "setBounds", "(IDD)V"⟩ : MethodName), prog_4_method_5_code, 6, none)
  | 5 => (1, (⟨"com/example/hertzbid/hertzbid/mechanisms/DualSimplex", "lower", "(I)D"⟩ : MethodName), prog_4_method_6_code, 2, (some .double))
  | 6 => (1, (⟨"com/example/hertzbid/hertzbid/mechanisms/DualSimplex", "upper", "(I)D"⟩ : MethodName), prog_4_method_7_code, 2, (some .double))
  | 7 => (1, (⟨"com/example/hertzbid/hertzbid/mechanisms/DualSimplex", "value", "(I)D"⟩ : MethodName), prog_4_method_8_code, 2, (some .double))
  | 8 => (1, (⟨"com/example/hertzbid/hertzbid/mechanisms/DualSimplex", "addRow", "([I[DD)I"⟩ : MethodName), prog_4_method_3_code, 8, (some .int))
  | 9 => (1, (⟨"com/example/hertzbid/hertzbid/mechanisms/DualSimplex", "dot", "(I)D"⟩ : MethodName), prog_4_method_36_code, 5, (some .double))
  | 10 => (1, (⟨"com/example/hertzbid/hertzbid/mechanisms/DualSimplex", "solve", "(J)Lcom/example/hertzbid/hertzbid/mechanisms/DualSimplex$Status;"⟩ : MethodName), prog_4_method_13_code, 14, (some (.object "com/example/hertzbid/hertzbid/mechanisms/DualSimplex$Status")))
  | 11 => (1, (⟨"com/example/hertzbid/hertzbid/mechanisms/DualSimplex", "refresh", "()V"⟩ : MethodName), prog_4_method_35_code, 8, none)
  | 12 => (1, (⟨"com/example/hertzbid/hertzbid/mechanisms/DualSimplex", "times", "([D)[D"⟩ : MethodName), prog_4_method_30_code, 10, (some (.array .double)))
  | 13 => (1, (⟨"com/example/hertzbid/hertzbid/mechanisms/DualSimplex", "timesLeft", "([D)[D"⟩ : MethodName), prog_4_method_31_code, 6, (some (.array .double)))
  | 14 => (1, (⟨"com/example/hertzbid/hertzbid/mechanisms/DualSimplex", "leaving", "()I"⟩ : MethodName), prog_4_method_18_code, 8, (some .int))
  | 15 => (1, (⟨"com/example/hertzbid/hertzbid/mechanisms/DualSimplex", "leavingValue", "(I)D"⟩ : MethodName), prog_4_method_19_code, 2, (some .double))
  | 16 => (1, (⟨"com/example/hertzbid/hertzbid/mechanisms/DualSimplex", "leavingLower", "(I)D"⟩ : MethodName), prog_4_method_20_code, 2, (some .double))
  | 17 => (1, (⟨"com/example/hertzbid/hertzbid/mechanisms/DualSimplex", "computePivotRow", "(I)V"⟩ : MethodName), prog_4_method_21_code, 10, none)
  | 18 => (2, (⟨"java/util/Arrays", "fill", "([DD)V"⟩ : MethodName), jdk_65_method_113_code, 5, none)
  | 19 => (1, (⟨"com/example/hertzbid/hertzbid/mechanisms/DualSimplex", "entering", "(Z)I"⟩ : MethodName), prog_4_method_22_code, 12, (some .int))
  | 20 => (1, (⟨"com/example/hertzbid/hertzbid/mechanisms/DualSimplex", "movable", "(ID)Z"⟩ : MethodName), prog_4_method_23_code, 6, (some .boolean))
  | 23 => (1, (⟨"com/example/hertzbid/hertzbid/mechanisms/DualSimplex", "step", "(IIZ)V"⟩ : MethodName), prog_4_method_16_code, 19, none)
  | 24 => (1, (⟨"com/example/hertzbid/hertzbid/mechanisms/DualSimplex", "onTight", "(I)[D"⟩ : MethodName), prog_4_method_24_code, 5, (some (.array .double)))
  | 25 => (1, (⟨"com/example/hertzbid/hertzbid/mechanisms/DualSimplex", "moveSlacks", "(ID)V"⟩ : MethodName), prog_4_method_17_code, 8, none)
  | 26 => (1, (⟨"com/example/hertzbid/hertzbid/mechanisms/DualSimplex", "grow", "(II[DD)V"⟩ : MethodName), prog_4_method_27_code, 15, none)
  | 27 => (1, (⟨"com/example/hertzbid/hertzbid/mechanisms/DualSimplex", "ensureKernel", "(I)V"⟩ : MethodName), prog_4_method_32_code, 5, none)
  | 28 => (1, (⟨"com/example/hertzbid/hertzbid/mechanisms/DualSimplex", "onBasic", "(I)[D"⟩ : MethodName), prog_4_method_25_code, 5, (some (.array .double)))
  | 29 => (1, (⟨"com/example/hertzbid/hertzbid/mechanisms/DualSimplex", "objective", "()D"⟩ : MethodName), prog_4_method_10_code, 4, (some .double))
  | 31 => (1, (⟨"com/example/hertzbid/hertzbid/mechanisms/DualSimplex", "replaceColumn", "(II[D)V"⟩ : MethodName), prog_4_method_26_code, 10, none)
  | _ => (2, ⟨"java/util/Arrays", "", ""⟩, code, 0, none)
abbrev z_bc (b : Nat) : Nat := (z_bd b).1
abbrev z_nm (b : Nat) : MethodName := (z_bd b).2.1
abbrev z_cd (b : Nat) : ByteArray := (z_bd b).2.2.1
abbrev z_mx (b : Nat) : Nat := (z_bd b).2.2.2.1
abbrev z_rt (b : Nat) : Option FieldType := (z_bd b).2.2.2.2
theorem z_bcn (b : Nat) : (z_nm b).cls = z_cn (z_bc b) := by
  unfold z_nm z_bc z_bd; split <;> rfl
def z_t0 : List (List (Nat × Instr)) := [[], [(18, .iload_n 3), (19, .i2d), (20, .dstore 8), (22, .iload 4), (24, .i2d), (25, .dstore 10), (27, .iload 5), (29, .iconst 2), (30, .if_icmp .lt 7)], [(33, .iconst 1), (34, .goto 4), (37, .iconst 0), (38, .istore 12), (40, .iload 5), (42, .iconst 2), (43, .if_icmp .ne 7), (46, .iconst 1), (47, .goto 4)], [(50, .iconst (-1)), (51, .istore 13), (53, .iload 13), (55, .i2d), (56, .dstore 14), (58, .iload 12), (60, .ifCond .eq 85), (63, .iload 13)], [(65, .iconst 1), (66, .if_icmp .ne 7), (69, .dconst 0), (70, .goto 6), (73, .ldc2_w 7), (76, .dstore 19), (78, .iload 13)], [(80, .iconst 1), (81, .if_icmp .ne 9), (84, .ldc2_w 9), (87, .goto 4), (90, .dconst 0), (91, .dstore 21), (93, .iconst 2), (94, .newarray .double)], [(96, .dup), (97, .iconst 0), (98, .ldc2_w 9), (101, .dload 14), (103, .dmul), (104, .dastore), (105, .dup), (106, .iconst 1), (107, .dload 14), (109, .dastore), (110, .astore 16)], [(112, .iconst 2), (113, .newarray .double), (115, .dup), (116, .iconst 0), (117, .dload 19), (119, .dastore), (120, .dup), (121, .iconst 1), (122, .dload 19), (124, .dastore), (125, .astore 17), (127, .iconst 2)], [(128, .newarray .double), (130, .dup), (131, .iconst 0), (132, .dload 21), (134, .dastore), (135, .dup), (136, .iconst 1), (137, .dload 21), (139, .dastore), (140, .astore 18), (142, .goto 52)], [(145, .iconst 2), (146, .newarray .double), (148, .dup), (149, .iconst 0), (150, .iload_n 1), (151, .i2d), (152, .dastore), (153, .dup), (154, .iconst 1), (155, .iload_n 2), (156, .i2d), (157, .dastore), (158, .astore 16)], [(160, .iconst 2), (161, .newarray .double), (163, .dup), (164, .iconst 0), (165, .ldc2_w 11), (168, .dastore), (169, .dup), (170, .iconst 1), (171, .ldc2_w 11), (174, .dastore), (175, .astore 17)], [(177, .iconst 2), (178, .newarray .double), (180, .dup), (181, .iconst 0), (182, .ldc2_w 13), (185, .dastore), (186, .dup), (187, .iconst 1), (188, .ldc2_w 13), (191, .dastore)], [(192, .astore 18), (194, .iconst 2), (195, .newarray .int), (197, .dup), (198, .iconst 0), (199, .iconst 0), (200, .iastore), (201, .dup), (202, .iconst 1), (203, .iconst 1), (204, .iastore), (205, .astore 19), (207, .iconst 2)], [(208, .newarray .double), (210, .dup), (211, .iconst 0), (212, .dload 14), (214, .dastore), (215, .dup), (216, .iconst 1), (217, .dload 14), (219, .dastore), (220, .astore 20), (222, .new 15)], [(225, .dup), (226, .aload 16), (228, .aload 17), (230, .aload 18), (232, .invokespecial 17), (235, .astore 21), (237, .iload 12), (239, .ifCond .eq 26)], [(242, .aload 21), (244, .aload 19), (246, .aload 20), (248, .dconst 1), (249, .invokevirtual 20), (252, .pop), (253, .aload 21), (255, .ldc2_w 24)], [(258, .invokevirtual 26), (261, .pop), (262, .goto 16), (265, .iload 5), (267, .iconst 1), (268, .if_icmp .ne 10), (271, .aload 21)], [(273, .lconst 0), (274, .invokevirtual 26), (277, .pop), (278, .iload 12), (280, .ifCond .eq 54), (283, .aload 17), (285, .iload 7), (287, .daload)], [(288, .dstore 26), (290, .aload 18), (292, .iload 7), (294, .daload), (295, .dstore 28), (297, .iload 6), (299, .ifCond .ne 13), (302, .dload 14)], [(304, .dstore 22), (306, .dconst 0), (307, .dstore 24), (309, .goto 89), (312, .iload 13), (314, .iconst 1), (315, .if_icmp .ne 8), (318, .dload 8)], [(320, .goto 5), (323, .dload 10), (325, .dstore 22), (327, .dload 14), (329, .dstore 24), (331, .goto 67), (334, .iload 6)], [(336, .ifCond .ne 7), (339, .iload_n 1), (340, .goto 4), (343, .iload_n 2), (344, .istore 30), (346, .iload 6), (348, .ifCond .ne 7), (351, .iload_n 2)], [(352, .goto 4), (355, .iload_n 1), (356, .istore 31), (358, .iload 30), (360, .ifCond .lt 8), (363, .dload 10), (365, .goto 5)], [(368, .dload 8), (370, .dstore 22), (372, .iload 31), (374, .ifCond .lt 9), (377, .ldc2_w 13), (380, .goto 6), (383, .ldc2_w 11)], [(386, .dstore 24), (388, .ldc2_w 11), (391, .dstore 26), (393, .ldc2_w 13), (396, .dstore 28), (398, .aload 21)], [(400, .iload 6), (402, .dload 8), (404, .dload 10), (406, .invokevirtual 30), (409, .aload 21), (411, .iload 6), (413, .invokevirtual 34)], [(416, .dload 8), (418, .dcmp .l), (419, .ifCond .ne 72), (422, .aload 21), (424, .iload 6), (426, .invokevirtual 38), (429, .dload 10), (431, .dcmp .l)], [(432, .ifCond .ne 59), (435, .aload 21), (437, .iload 6), (439, .invokevirtual 41), (442, .dload 22), (444, .dcmp .l), (445, .ifCond .ne 46)], [(448, .aload 21), (450, .iload 7), (452, .invokevirtual 34), (455, .dload 26), (457, .dcmp .l), (458, .ifCond .ne 33), (461, .aload 21), (463, .iload 7)], [(465, .invokevirtual 38), (468, .dload 28), (470, .dcmp .l), (471, .ifCond .ne 20), (474, .aload 21), (476, .iload 7), (478, .invokevirtual 41)], [(481, .dload 24), (483, .dcmp .l), (484, .ifCond .ne 7), (487, .iconst 1), (488, .goto 4), (492, .ireturn)]]
theorem z_tk0 : ∀ ch ∈ z_t0, ∀ x ∈ ch, decode (z_cd 0) x.1 = .ok (x.2, z_len x.2) := by decide +kernel
def z_t1 : List (List (Nat × Instr)) := [[(0, .aload_n 0), (1, .invokespecial 1), (4, .aload_n 0), (5, .bipush 16), (7, .anewarray 7), (10, .putfield 9), (13, .aload_n 0), (14, .bipush 16)], [(16, .anewarray 15), (19, .putfield 17), (22, .aload_n 0), (23, .bipush 16), (25, .newarray .double), (27, .putfield 21), (30, .aload_n 0), (31, .bipush 16)], [(33, .newarray .double), (35, .putfield 24), (38, .aload_n 0), (39, .bipush 16), (41, .newarray .int), (43, .putfield 27), (46, .aload_n 0), (47, .bipush 16)], [(49, .newarray .int), (51, .putfield 30), (54, .aload_n 0), (55, .bipush 16), (57, .newarray .int), (59, .putfield 33), (62, .aload_n 0), (63, .bipush 16)], [(65, .bipush 16), (67, .multianewarray 36 2), (71, .putfield 37), (74, .aload_n 0), (75, .bipush 16), (77, .newarray .double), (79, .putfield 40)], [(82, .aload_n 0), (83, .bipush 16), (85, .newarray .double), (87, .putfield 43), (90, .aload_n 0), (91, .aload_n 1), (92, .arraylength), (93, .putfield 46)], [(96, .aload_n 0), (97, .aload_n 1), (98, .invokevirtual 50), (101, .checkcast 15), (104, .putfield 54), (107, .aload_n 0), (108, .aload_n 2), (109, .invokevirtual 50)], [(112, .checkcast 15), (115, .putfield 57), (118, .aload_n 0), (119, .aload_n 3), (120, .invokevirtual 50), (123, .checkcast 15), (126, .putfield 60)], [(129, .aload_n 0), (130, .aload_n 0), (131, .getfield 46), (134, .newarray .double), (136, .putfield 63), (139, .aload_n 0), (140, .aload_n 0), (141, .getfield 46)], [(144, .newarray .int), (146, .putfield 66), (149, .aload_n 0), (150, .getfield 66), (153, .iconst (-1)), (154, .invokestatic 69), (157, .aload_n 0), (158, .aload_n 0), (159, .getfield 46)], [(162, .iconst 4), (163, .multianewarray 75 2), (167, .putfield 76), (170, .aload_n 0), (171, .aload_n 0), (172, .getfield 46), (175, .iconst 4)], [(176, .multianewarray 36 2), (180, .putfield 79), (183, .aload_n 0), (184, .aload_n 0), (185, .getfield 46), (188, .newarray .int), (190, .putfield 82)], [(193, .aload_n 0), (194, .aload_n 0), (195, .getfield 46), (198, .newarray .double), (200, .putfield 85), (203, .aload_n 0), (204, .aload_n 0), (205, .getfield 46)], [(208, .newarray .double), (210, .putfield 88), (213, .iconst 0), (214, .istore 4), (216, .iload 4), (218, .aload_n 0), (219, .getfield 46), (222, .if_icmp .ge 36)], [(225, .aload_n 0), (226, .getfield 63), (229, .iload 4), (231, .aload_n 1), (232, .iload 4), (234, .daload), (235, .dconst 0), (236, .dcmp .l), (237, .ifCond .lt 10)], [(240, .aload_n 3), (241, .iload 4), (243, .daload), (244, .goto 7), (247, .aload_n 2), (248, .iload 4), (250, .daload), (251, .dastore), (252, .iinc 4 1), (255, .goto (-39))], [(258, .return_)]]
theorem z_tk1 : ∀ ch ∈ z_t1, ∀ x ∈ ch, decode (z_cd 1) x.1 = .ok (x.2, z_len x.2) := by decide +kernel
def z_t3 : List (List (Nat × Instr)) := [[(0, .iconst 0), (1, .istore_n 2), (2, .aload_n 0), (3, .arraylength), (4, .istore_n 3), (5, .iload_n 2), (6, .iload_n 3), (7, .if_icmp .ge 13), (10, .aload_n 0), (11, .iload_n 2), (12, .iload_n 1), (13, .iastore), (14, .iinc 2 1)], [(17, .goto (-12)), (20, .return_)]]
theorem z_tk3 : ∀ ch ∈ z_t3, ∀ x ∈ ch, decode (z_cd 3) x.1 = .ok (x.2, z_len x.2) := by decide +kernel
def z_t4 : List (List (Nat × Instr)) := [[(0, .aload_n 0), (1, .getfield 57), (4, .iload_n 1), (5, .dload_n 2), (6, .dastore), (7, .aload_n 0), (8, .getfield 60), (11, .iload_n 1), (12, .dload 4), (14, .dastore), (15, .aload_n 0)], [(16, .getfield 66), (19, .iload_n 1), (20, .iaload), (21, .ifCond .ge 48), (24, .aload_n 0), (25, .getfield 63), (28, .iload_n 1), (29, .aload_n 0), (30, .getfield 85)], [(33, .iload_n 1), (34, .daload), (35, .dconst 0), (36, .dcmp .l), (37, .ifCond .gt 25), (40, .aload_n 0), (41, .getfield 85), (44, .iload_n 1), (45, .daload), (46, .dconst 0), (47, .dcmp .l)], [(48, .ifCond .ne 19), (51, .aload_n 0), (52, .getfield 54), (55, .iload_n 1), (56, .daload), (57, .dconst 0), (58, .dcmp .l), (59, .ifCond .lt 8), (62, .dload 4)], [(64, .goto 4), (67, .dload_n 2), (68, .dastore), (69, .return_)]]
theorem z_tk4 : ∀ ch ∈ z_t4, ∀ x ∈ ch, decode (z_cd 4) x.1 = .ok (x.2, z_len x.2) := by decide +kernel
def z_t5 : List (List (Nat × Instr)) := [[(0, .aload_n 0), (1, .getfield 57), (4, .iload_n 1), (5, .daload), (6, .dreturn)]]
theorem z_tk5 : ∀ ch ∈ z_t5, ∀ x ∈ ch, decode (z_cd 5) x.1 = .ok (x.2, z_len x.2) := by decide +kernel
def z_t6 : List (List (Nat × Instr)) := [[(0, .aload_n 0), (1, .getfield 60), (4, .iload_n 1), (5, .daload), (6, .dreturn)]]
theorem z_tk6 : ∀ ch ∈ z_t6, ∀ x ∈ ch, decode (z_cd 6) x.1 = .ok (x.2, z_len x.2) := by decide +kernel
def z_t7 : List (List (Nat × Instr)) := [[(0, .aload_n 0), (1, .getfield 63), (4, .iload_n 1), (5, .daload), (6, .dreturn)]]
theorem z_tk7 : ∀ ch ∈ z_t7, ∀ x ∈ ch, decode (z_cd 7) x.1 = .ok (x.2, z_len x.2) := by decide +kernel
def z_t8 : List (List (Nat × Instr)) := [[(0, .aload_n 0), (1, .getfield 91), (4, .aload_n 0), (5, .getfield 21), (8, .arraylength), (9, .if_icmp .ne 90)], [], [], [], [], [], [(99, .aload_n 0), (100, .dup), (101, .getfield 91), (104, .dup_x1), (105, .iconst 1), (106, .iadd), (107, .putfield 91), (110, .istore 5)], [(112, .aload_n 0), (113, .getfield 9), (116, .iload 5), (118, .aload_n 1), (119, .invokevirtual 104), (122, .checkcast 7), (125, .aastore), (126, .aload_n 0), (127, .getfield 17)], [(130, .iload 5), (132, .aload_n 2), (133, .invokevirtual 50), (136, .checkcast 15), (139, .aastore), (140, .aload_n 0), (141, .getfield 21)], [(144, .iload 5), (146, .dload_n 3), (147, .dastore), (148, .aload_n 0), (149, .getfield 27), (152, .iload 5), (154, .iconst (-1)), (155, .iastore), (156, .iconst 0), (157, .istore 6), (159, .iload 6)], [(161, .aload_n 1), (162, .arraylength), (163, .if_icmp .ge 126), (166, .aload_n 1), (167, .iload 6), (169, .iaload), (170, .istore 7), (172, .aload_n 0), (173, .getfield 82)], [(176, .iload 7), (178, .iaload), (179, .aload_n 0), (180, .getfield 76), (183, .iload 7), (185, .aaload), (186, .arraylength), (187, .if_icmp .ne 55)], [], [], [], [(242, .aload_n 0), (243, .getfield 76), (246, .iload 7), (248, .aaload), (249, .aload_n 0), (250, .getfield 82), (253, .iload 7), (255, .iaload)], [(256, .iload 5), (258, .iastore), (259, .aload_n 0), (260, .getfield 79), (263, .iload 7), (265, .aaload), (266, .aload_n 0), (267, .getfield 82), (270, .iload 7)], [(272, .dup2), (273, .iaload), (274, .dup_x2), (275, .iconst 1), (276, .iadd), (277, .iastore), (278, .aload_n 2), (279, .iload 6), (281, .daload), (282, .dastore), (283, .iinc 6 1), (286, .goto (-127))], [(289, .aload_n 0), (290, .getfield 24), (293, .iload 5), (295, .dload_n 3), (296, .aload_n 0), (297, .iload 5), (299, .invokevirtual 105), (302, .dsub), (303, .dastore)], [(304, .iload 5), (306, .ireturn)]]
theorem z_tk8 : ∀ ch ∈ z_t8, ∀ x ∈ ch, decode (z_cd 8) x.1 = .ok (x.2, z_len x.2) := by decide +kernel
def z_t9 : List (List (Nat × Instr)) := [[(0, .dconst 0), (1, .dstore_n 2), (2, .iconst 0), (3, .istore 4), (5, .iload 4), (7, .aload_n 0), (8, .getfield 9), (11, .iload_n 1), (12, .aaload), (13, .arraylength), (14, .if_icmp .ge 36)], [(17, .dload_n 2), (18, .aload_n 0), (19, .getfield 17), (22, .iload_n 1), (23, .aaload), (24, .iload 4), (26, .daload), (27, .aload_n 0), (28, .getfield 63), (31, .aload_n 0)], [(32, .getfield 9), (35, .iload_n 1), (36, .aaload), (37, .iload 4), (39, .iaload), (40, .daload), (41, .dmul), (42, .dadd), (43, .dstore_n 2), (44, .iinc 4 1), (47, .goto (-42))], [(50, .dload_n 2), (51, .dreturn)]]
theorem z_tk9 : ∀ ch ∈ z_t9, ∀ x ∈ ch, decode (z_cd 9) x.1 = .ok (x.2, z_len x.2) := by decide +kernel
def z_t10 : List (List (Nat × Instr)) := [[(0, .aload_n 0), (1, .invokevirtual 140), (4, .ldc2_w 145), (7, .dstore_n 3), (8, .iconst 0), (9, .istore 5), (11, .iconst 0), (12, .istore 6), (14, .lconst 0), (15, .lstore 7)], [(17, .lload 7), (19, .lload_n 1), (20, .lcmp), (21, .ifCond .ge 177), (24, .iload 6), (26, .ifCond .eq 10)], [(36, .aload_n 0), (37, .invokevirtual 151), (40, .istore 9), (42, .iload 9), (44, .ldc 156), (46, .if_icmp .ne 7)], [(49, .getstatic 157), (52, .areturn), (53, .aload_n 0), (54, .iload 9), (56, .invokevirtual 163), (59, .aload_n 0), (60, .iload 9), (62, .invokevirtual 166)], [(65, .dcmp .g), (66, .ifCond .ge 7), (69, .iconst 1), (70, .goto 4), (73, .iconst 0), (74, .istore 10), (76, .aload_n 0), (77, .iload 9), (79, .invokevirtual 119)], [(82, .iload 6), (84, .ifCond .eq 12)], [(96, .aload_n 0), (97, .iload 10), (99, .invokevirtual 173), (102, .istore 11), (104, .iload 11), (106, .ldc 156), (108, .if_icmp .ne 7)], [(115, .aload_n 0), (116, .iload 9), (118, .iload 11), (120, .iload 10), (122, .invokevirtual 179), (125, .aload_n 0), (126, .dup), (127, .getfield 183)], [(130, .iconst 1), (131, .iadd), (132, .dup_x1), (133, .putfield 183), (136, .bipush 50), (138, .if_icmp .lt 11)], [(149, .aload_n 0), (150, .invokevirtual 189), (153, .dstore 12), (155, .dload 12), (157, .dload_n 3), (158, .ldc2_w 133)], [(161, .dsub), (162, .dcmp .g), (163, .ifCond .ge 12), (166, .dload 12), (168, .dstore_n 3), (169, .iconst 0), (170, .istore 5), (172, .goto 17)], [(189, .lload 7), (191, .lconst 1)], [(192, .ladd), (193, .lstore 7), (195, .goto (-178)), (198, .getstatic 193), (201, .areturn)]]
theorem z_tk10 : ∀ ch ∈ z_t10, ∀ x ∈ ch, decode (z_cd 10) x.1 = .ok (x.2, z_len x.2) := by decide +kernel
def z_t11 : List (List (Nat × Instr)) := [[(0, .aload_n 0), (1, .getfield 127), (4, .newarray .double), (6, .astore_n 1), (7, .iconst 0), (8, .istore_n 2), (9, .iload_n 2), (10, .aload_n 0), (11, .getfield 127), (14, .if_icmp .ge 93)], [], [], [], [], [], [(107, .aload_n 0), (108, .aload_n 1), (109, .invokevirtual 214)], [(112, .astore_n 2), (113, .iconst 0), (114, .istore_n 3), (115, .iload_n 3), (116, .aload_n 0), (117, .getfield 127), (120, .if_icmp .ge 23)], [(143, .iconst 0)], [(144, .istore_n 3), (145, .iload_n 3), (146, .aload_n 0), (147, .getfield 91), (150, .if_icmp .ge 40), (153, .aload_n 0), (154, .getfield 24), (157, .iload_n 3), (158, .aload_n 0), (159, .getfield 27)], [(162, .iload_n 3), (163, .iaload), (164, .ifCond .lt 7), (171, .aload_n 0), (172, .getfield 21), (175, .iload_n 3)], [(176, .daload), (177, .aload_n 0), (178, .iload_n 3), (179, .invokevirtual 105), (182, .dsub), (183, .dastore), (184, .iinc 3 1), (187, .goto (-42)), (190, .aload_n 0), (191, .getfield 127)], [(194, .newarray .double), (196, .astore_n 3), (197, .iconst 0), (198, .istore 4), (200, .iload 4), (202, .aload_n 0), (203, .getfield 127), (206, .if_icmp .ge 25)], [], [(231, .aload_n 0), (232, .aload_n 3), (233, .invokevirtual 252), (236, .astore 4), (238, .aload 4)], [(240, .iconst 0), (241, .aload_n 0), (242, .getfield 40), (245, .iconst 0), (246, .aload_n 0), (247, .getfield 127), (250, .invokestatic 258), (253, .aload_n 0), (254, .getfield 54)], [(257, .iconst 0), (258, .aload_n 0), (259, .getfield 85), (262, .iconst 0), (263, .aload_n 0), (264, .getfield 46), (267, .invokestatic 258), (270, .iconst 0), (271, .istore 5)], [(273, .iload 5), (275, .aload_n 0), (276, .getfield 127), (279, .if_icmp .ge 74)], [], [], [], [], [(353, .iconst 0), (354, .istore 5), (356, .iload 5), (358, .aload_n 0), (359, .getfield 127), (362, .if_icmp .ge 22)], [], [(384, .return_)]]
theorem z_tk11 : ∀ ch ∈ z_t11, ∀ x ∈ ch, decode (z_cd 11) x.1 = .ok (x.2, z_len x.2) := by decide +kernel
def z_t12 : List (List (Nat × Instr)) := [[(0, .aload_n 0), (1, .getfield 127), (4, .newarray .int), (6, .astore_n 2), (7, .iconst 0), (8, .istore_n 3), (9, .iconst 0), (10, .istore 4), (12, .iload 4), (14, .aload_n 0), (15, .getfield 127)], [(18, .if_icmp .ge 26), (21, .aload_n 1), (22, .iload 4), (24, .daload), (25, .dconst 0), (26, .dcmp .l), (27, .ifCond .eq 11), (30, .aload_n 2), (31, .iload_n 3)], [(32, .iinc 3 1), (35, .iload 4), (37, .iastore), (38, .iinc 4 1), (41, .goto (-29)), (44, .aload_n 0), (45, .getfield 127)], [(48, .newarray .double), (50, .astore 4), (52, .iconst 0), (53, .istore 5), (55, .iload 5), (57, .aload_n 0), (58, .getfield 127), (61, .if_icmp .ge 62)], [(64, .dconst 0), (65, .dstore 6), (67, .aload_n 0), (68, .getfield 37), (71, .iload 5), (73, .aaload), (74, .astore 8), (76, .iconst 0), (77, .istore 9), (79, .iload 9)], [(81, .iload_n 3), (82, .if_icmp .ge 28), (85, .dload 6), (87, .aload 8), (89, .aload_n 2), (90, .iload 9), (92, .iaload), (93, .daload), (94, .aload_n 1), (95, .aload_n 2)], [(96, .iload 9), (98, .iaload), (99, .daload), (100, .dmul), (101, .dadd), (102, .dstore 6), (104, .iinc 9 1), (107, .goto (-28)), (110, .aload 4)], [(112, .iload 5), (114, .dload 6), (116, .dastore), (117, .iinc 5 1), (120, .goto (-65)), (123, .aload 4), (125, .areturn)]]
theorem z_tk12 : ∀ ch ∈ z_t12, ∀ x ∈ ch, decode (z_cd 12) x.1 = .ok (x.2, z_len x.2) := by decide +kernel
def z_t13 : List (List (Nat × Instr)) := [[(0, .aload_n 0), (1, .getfield 127), (4, .newarray .double), (6, .astore_n 2), (7, .iconst 0), (8, .istore_n 3), (9, .iload_n 3), (10, .aload_n 0), (11, .getfield 127), (14, .if_icmp .ge 59)], [], [], [], [(73, .aload_n 2), (74, .areturn)]]
theorem z_tk13 : ∀ ch ∈ z_t13, ∀ x ∈ ch, decode (z_cd 13) x.1 = .ok (x.2, z_len x.2) := by decide +kernel
def z_t14 : List (List (Nat × Instr)) := [[(0, .ldc 156), (2, .istore_n 1), (3, .ldc2_w 196), (6, .dstore_n 2), (7, .iconst 0), (8, .istore 4), (10, .iload 4), (12, .aload_n 0), (13, .getfield 127)], [(16, .if_icmp .ge 66), (19, .aload_n 0), (20, .getfield 33), (23, .iload 4), (25, .iaload), (26, .istore 5), (28, .aload_n 0), (29, .getfield 57)], [(32, .iload 5), (34, .daload), (35, .aload_n 0), (36, .getfield 63), (39, .iload 5), (41, .daload), (42, .dsub), (43, .aload_n 0), (44, .getfield 63), (47, .iload 5)], [(49, .daload), (50, .aload_n 0), (51, .getfield 60), (54, .iload 5), (56, .daload), (57, .dsub), (58, .invokestatic 206), (61, .dstore 6), (63, .dload 6)], [(65, .dload_n 2), (66, .dcmp .l), (67, .ifCond .le 9), (70, .dload 6), (72, .dstore_n 2), (73, .iload 5), (75, .istore_n 1), (76, .iinc 4 1), (79, .goto (-69))], [(82, .iconst 0), (83, .istore 4), (85, .iload 4), (87, .aload_n 0), (88, .getfield 91), (91, .if_icmp .ge 46), (94, .aload_n 0), (95, .getfield 27)], [(98, .iload 4), (100, .iaload), (101, .ifCond .ge 30), (104, .aload_n 0), (105, .getfield 24), (108, .iload 4), (110, .daload), (111, .dneg)], [(112, .dload_n 2), (113, .dcmp .l), (114, .ifCond .le 17), (117, .aload_n 0), (118, .getfield 24), (121, .iload 4), (123, .daload), (124, .dneg), (125, .dstore_n 2), (126, .iconst (-1)), (127, .iload 4)], [(129, .isub), (130, .istore_n 1), (131, .iinc 4 1), (134, .goto (-49)), (137, .iload_n 1), (138, .ireturn)]]
theorem z_tk14 : ∀ ch ∈ z_t14, ∀ x ∈ ch, decode (z_cd 14) x.1 = .ok (x.2, z_len x.2) := by decide +kernel
def z_t15 : List (List (Nat × Instr)) := [[(0, .iload_n 1), (1, .ifCond .lt 12), (4, .aload_n 0), (5, .getfield 63), (8, .iload_n 1), (9, .daload), (10, .goto 11), (13, .aload_n 0), (14, .getfield 24)], [(17, .iconst (-1)), (18, .iload_n 1), (19, .isub), (20, .daload), (21, .dreturn)]]
theorem z_tk15 : ∀ ch ∈ z_t15, ∀ x ∈ ch, decode (z_cd 15) x.1 = .ok (x.2, z_len x.2) := by decide +kernel
def z_t16 : List (List (Nat × Instr)) := [[(0, .iload_n 1), (1, .ifCond .lt 12), (4, .aload_n 0), (5, .getfield 57), (8, .iload_n 1), (9, .daload), (10, .goto 4), (13, .dconst 0), (14, .dreturn)]]
theorem z_tk16 : ∀ ch ∈ z_t16, ∀ x ∈ ch, decode (z_cd 16) x.1 = .ok (x.2, z_len x.2) := by decide +kernel
def z_t17 : List (List (Nat × Instr)) := [[(0, .aload_n 0), (1, .getfield 127), (4, .newarray .double), (6, .astore_n 2), (7, .aload_n 0), (8, .getfield 88), (11, .dconst 0), (12, .invokestatic 238), (15, .iload_n 1)], [(16, .ifCond .lt 45), (19, .aload_n 0), (20, .getfield 66), (23, .iload_n 1), (24, .iaload), (25, .istore_n 3), (26, .iconst 0), (27, .istore 4), (29, .iload 4), (31, .aload_n 0)], [(32, .getfield 127), (35, .if_icmp .ge 23), (38, .aload_n 2), (39, .iload 4), (41, .aload_n 0), (42, .getfield 37), (45, .iload_n 3), (46, .aaload), (47, .iload 4)], [(49, .daload), (50, .dneg), (51, .dastore), (52, .iinc 4 1), (55, .goto (-26)), (58, .goto 124), (61, .iconst (-1)), (62, .iload_n 1), (63, .isub)], [(64, .istore_n 3), (65, .iconst 0), (66, .istore 4), (68, .iload 4), (70, .aload_n 0), (71, .getfield 9), (74, .iload_n 3), (75, .aaload), (76, .arraylength), (77, .if_icmp .ge 105)], [(80, .aload_n 0), (81, .getfield 9), (84, .iload_n 3), (85, .aaload), (86, .iload 4), (88, .iaload), (89, .istore 5), (91, .aload_n 0), (92, .getfield 66), (95, .iload 5)], [(97, .iaload), (98, .istore 6), (100, .iload 6), (102, .ifCond .lt 55)], [], [], [(157, .aload_n 0), (158, .getfield 88)], [(161, .iload 5), (163, .dup2), (164, .daload), (165, .aload_n 0), (166, .getfield 17), (169, .iload_n 3), (170, .aaload), (171, .iload 4), (173, .daload), (174, .dsub), (175, .dastore)], [(176, .iinc 4 1), (179, .goto (-111)), (182, .iconst 0), (183, .istore_n 3), (184, .iload_n 3), (185, .aload_n 0), (186, .getfield 127), (189, .if_icmp .ge 95)], [(192, .aload_n 2), (193, .iload_n 3), (194, .daload), (195, .dstore 4), (197, .aload_n 0), (198, .getfield 43), (201, .aload_n 0), (202, .getfield 30), (205, .iload_n 3), (206, .iaload), (207, .dload 4)], [(209, .dastore), (210, .dload 4), (212, .dconst 0), (213, .dcmp .l), (214, .ifCond .eq 64), (217, .aload_n 0), (218, .getfield 30), (221, .iload_n 3), (222, .iaload), (223, .istore 6)], [(225, .iconst 0), (226, .istore 7), (228, .iload 7), (230, .aload_n 0), (231, .getfield 9), (234, .iload 6), (236, .aaload), (237, .arraylength), (238, .if_icmp .ge 40)], [(241, .aload_n 0), (242, .getfield 88), (245, .aload_n 0), (246, .getfield 9), (249, .iload 6), (251, .aaload), (252, .iload 7), (254, .iaload), (255, .dup2)], [(256, .daload), (257, .dload 4), (259, .aload_n 0), (260, .getfield 17), (263, .iload 6), (265, .aaload), (266, .iload 7), (268, .daload), (269, .dmul), (270, .dadd), (271, .dastore)], [(272, .iinc 7 1), (275, .goto (-47)), (278, .iinc 3 1), (281, .goto (-97)), (284, .return_)]]
theorem z_tk17 : ∀ ch ∈ z_t17, ∀ x ∈ ch, decode (z_cd 17) x.1 = .ok (x.2, z_len x.2) := by decide +kernel
def z_t18 : List (List (Nat × Instr)) := [[(0, .iconst 0), (1, .istore_n 3), (2, .aload_n 0), (3, .arraylength), (4, .istore 4), (6, .iload_n 3), (7, .iload 4), (9, .if_icmp .ge 13), (12, .aload_n 0), (13, .iload_n 3), (14, .dload_n 1), (15, .dastore)], [(16, .iinc 3 1), (19, .goto (-13)), (22, .return_)]]
theorem z_tk18 : ∀ ch ∈ z_t18, ∀ x ∈ ch, decode (z_cd 18) x.1 = .ok (x.2, z_len x.2) := by decide +kernel
def z_t19 : List (List (Nat × Instr)) := [[(0, .iload_n 1), (1, .ifCond .eq 7), (4, .dconst 1), (5, .goto 6), (8, .ldc2_w 200), (11, .dstore_n 2), (12, .ldc2_w 145), (15, .dstore 4)], [(17, .iconst 0), (18, .istore 6), (20, .iload 6), (22, .aload_n 0), (23, .getfield 46), (26, .if_icmp .ge 68), (29, .dload_n 2), (30, .aload_n 0), (31, .getfield 88)], [(34, .iload 6), (36, .daload), (37, .dmul), (38, .dstore 7), (40, .aload_n 0), (41, .getfield 66), (44, .iload 6), (46, .iaload), (47, .ifCond .ge 41)], [(50, .aload_n 0), (51, .iload 6), (53, .dload 7), (55, .invokevirtual 202), (58, .ifCond .eq 30), (61, .dload 4), (63, .aload_n 0)], [(64, .getfield 85), (67, .iload 6), (69, .daload), (70, .invokestatic 130), (73, .ldc2_w 133), (76, .dadd), (77, .dload 7), (79, .invokestatic 130)], [(82, .ddiv), (83, .invokestatic 241), (86, .dstore 4), (88, .iinc 6 1), (91, .goto (-71)), (94, .iconst 0), (95, .istore 6)], [(97, .iload 6), (99, .aload_n 0), (100, .getfield 127), (103, .if_icmp .ge 59), (106, .dload_n 2), (107, .aload_n 0), (108, .getfield 43), (111, .aload_n 0)], [(112, .getfield 30), (115, .iload 6), (117, .iaload), (118, .daload), (119, .dmul), (120, .dstore 7), (122, .dload 7), (124, .ldc2_w 133), (127, .dcmp .l)], [(128, .ifCond .le 28)], [(156, .iinc 6 1), (159, .goto (-62))], [(162, .dload 4), (164, .ldc2_w 145), (167, .dcmp .l), (168, .ifCond .ne 6), (174, .ldc 156)], [(176, .istore 6), (178, .dconst 0), (179, .dstore 7), (181, .iconst 0), (182, .istore 9), (184, .iload 9), (186, .aload_n 0), (187, .getfield 46), (190, .if_icmp .ge 85)], [(193, .dload_n 2), (194, .aload_n 0), (195, .getfield 88), (198, .iload 9), (200, .daload), (201, .dmul), (202, .dstore 10), (204, .aload_n 0), (205, .getfield 66)], [(208, .iload 9), (210, .iaload), (211, .ifCond .ge 58), (214, .aload_n 0), (215, .iload 9), (217, .dload 10), (219, .invokevirtual 202), (222, .ifCond .eq 47)], [(225, .aload_n 0), (226, .getfield 85), (229, .iload 9), (231, .daload), (232, .invokestatic 130), (235, .dload 10), (237, .invokestatic 130)], [(240, .ddiv), (241, .dload 4), (243, .dcmp .g), (244, .ifCond .gt 25), (247, .dload 10), (249, .invokestatic 130), (252, .dload 7), (254, .dcmp .l), (255, .ifCond .le 14)], [(258, .dload 10), (260, .invokestatic 130), (263, .dstore 7), (265, .iload 9), (267, .istore 6), (269, .iinc 9 1)], [(272, .goto (-88)), (275, .iconst 0), (276, .istore 9), (278, .iload 9), (280, .aload_n 0), (281, .getfield 127), (284, .if_icmp .ge 77), (287, .dload_n 2)], [(288, .aload_n 0), (289, .getfield 43), (292, .aload_n 0), (293, .getfield 30), (296, .iload 9), (298, .iaload), (299, .daload), (300, .dmul), (301, .dstore 10), (303, .dload 10)], [(305, .ldc2_w 133), (308, .dcmp .l), (309, .ifCond .le 46)], [], [], [(355, .iinc 9 1), (358, .goto (-80)), (361, .iload 6), (363, .ireturn)]]
theorem z_tk19 : ∀ ch ∈ z_t19, ∀ x ∈ ch, decode (z_cd 19) x.1 = .ok (x.2, z_len x.2) := by decide +kernel
def z_t20 : List (List (Nat × Instr)) := [[(0, .aload_n 0), (1, .getfield 63), (4, .iload_n 1), (5, .daload), (6, .aload_n 0), (7, .getfield 57), (10, .iload_n 1), (11, .daload), (12, .dcmp .g), (13, .ifCond .gt 7)], [(16, .iconst 1), (17, .goto 4), (20, .iconst 0), (21, .istore 4), (23, .aload_n 0), (24, .getfield 63), (27, .iload_n 1), (28, .daload), (29, .aload_n 0), (30, .getfield 60)], [(33, .iload_n 1), (34, .daload), (35, .dcmp .l), (36, .ifCond .lt 7), (39, .iconst 1), (40, .goto 4), (43, .iconst 0), (44, .istore 5), (46, .dload_n 2), (47, .ldc2_w 133)], [(50, .dcmp .l), (51, .ifCond .le 8), (54, .iload 5), (56, .ifCond .eq 16), (59, .dload_n 2), (60, .ldc2_w 244), (63, .dcmp .g)], [(64, .ifCond .ge 12), (67, .iload 4), (69, .ifCond .ne 7), (72, .iconst 1), (73, .goto 4), (77, .ireturn)]]
theorem z_tk20 : ∀ ch ∈ z_t20, ∀ x ∈ ch, decode (z_cd 20) x.1 = .ok (x.2, z_len x.2) := by decide +kernel
def z_t23 : List (List (Nat × Instr)) := [[(0, .iload_n 2), (1, .ifCond .lt 12), (4, .aload_n 0), (5, .getfield 88), (8, .iload_n 2), (9, .daload), (10, .goto 11)], [(21, .dstore 4), (23, .iload_n 1), (24, .ifCond .lt 27), (27, .iload_n 3), (28, .ifCond .eq 12), (31, .aload_n 0)], [(32, .getfield 57), (35, .iload_n 1), (36, .daload), (37, .goto 9), (40, .aload_n 0), (41, .getfield 60), (44, .iload_n 1), (45, .daload), (46, .dstore 6)], [(48, .goto 6), (51, .dconst 0), (52, .dstore 6), (54, .dload 6), (56, .aload_n 0), (57, .iload_n 1), (58, .invokevirtual 163), (61, .dsub), (62, .dload 4)], [(64, .ddiv), (65, .dstore 8), (67, .iload_n 2), (68, .ifCond .lt 12), (71, .aload_n 0), (72, .getfield 85), (75, .iload_n 2), (76, .daload), (77, .goto 17)], [(94, .dstore 10)], [(96, .dload 10), (98, .dload 4), (100, .ddiv), (101, .dstore 12), (103, .iload_n 2), (104, .ifCond .lt 17), (107, .aload_n 0), (108, .aload_n 0), (109, .iload_n 2), (110, .invokevirtual 210)], [(113, .invokevirtual 214), (116, .astore 14), (118, .goto 54)], [], [], [(172, .iconst 0), (173, .istore 15), (175, .iload 15)], [(177, .aload_n 0), (178, .getfield 127), (181, .if_icmp .ge 56), (184, .aload 14), (186, .iload 15), (188, .daload), (189, .dneg), (190, .dload 8)], [(192, .dmul), (193, .dstore 16), (195, .dload 16), (197, .dconst 0), (198, .dcmp .l), (199, .ifCond .eq 32), (202, .aload_n 0), (203, .getfield 33), (206, .iload 15)], [(208, .iaload), (209, .istore 18), (211, .aload_n 0), (212, .getfield 63), (215, .iload 18), (217, .dup2), (218, .daload), (219, .dload 16), (221, .dadd), (222, .dastore), (223, .aload_n 0)], [(224, .iload 18), (226, .dload 16), (228, .invokevirtual 218), (231, .iinc 15 1), (234, .goto (-59)), (237, .iload_n 2), (238, .ifCond .lt 24)], [(241, .aload_n 0), (242, .getfield 63), (245, .iload_n 2), (246, .dup2), (247, .daload), (248, .dload 8), (250, .dadd), (251, .dastore), (252, .aload_n 0), (253, .iload_n 2), (254, .dload 8)], [(256, .invokevirtual 218), (259, .goto 13)], [(272, .iload_n 1), (273, .ifCond .lt 14), (276, .aload_n 0), (277, .getfield 63), (280, .iload_n 1), (281, .dload 6), (283, .dastore), (284, .goto 12), (287, .aload_n 0)], [(288, .getfield 24), (291, .iconst (-1)), (292, .iload_n 1), (293, .isub), (294, .dconst 0), (295, .dastore), (296, .iconst 0), (297, .istore 15), (299, .iload 15), (301, .aload_n 0), (302, .getfield 46)], [(305, .if_icmp .ge 51), (308, .aload_n 0), (309, .getfield 66), (312, .iload 15), (314, .iaload), (315, .ifCond .ge 35), (318, .aload_n 0), (319, .getfield 88)], [(322, .iload 15), (324, .daload), (325, .dconst 0), (326, .dcmp .l), (327, .ifCond .eq 23), (330, .aload_n 0), (331, .getfield 85), (334, .iload 15)], [(336, .dup2), (337, .daload), (338, .dload 12), (340, .aload_n 0), (341, .getfield 88), (344, .iload 15), (346, .daload), (347, .dmul), (348, .dsub), (349, .dastore), (350, .iinc 15 1)], [(353, .goto (-54)), (356, .iconst 0), (357, .istore 15), (359, .iload 15), (361, .aload_n 0), (362, .getfield 127), (365, .if_icmp .ge 34)], [(368, .aload_n 0), (369, .getfield 40), (372, .iload 15), (374, .dup2), (375, .daload), (376, .dload 12), (378, .aload_n 0), (379, .getfield 43), (382, .aload_n 0), (383, .getfield 30)], [(386, .iload 15), (388, .iaload), (389, .daload), (390, .dmul), (391, .dadd), (392, .dastore), (393, .iinc 15 1), (396, .goto (-37)), (399, .iload_n 2)], [(400, .ifCond .lt 10), (403, .aload_n 0), (404, .getfield 85), (407, .iload_n 2), (408, .dconst 0), (409, .dastore), (410, .iload_n 1), (411, .ifCond .lt 11), (414, .aload_n 0), (415, .getfield 85)], [(418, .iload_n 1), (419, .dload 12), (421, .dastore), (422, .iload_n 1), (423, .ifCond .lt 23), (426, .iload_n 2), (427, .ifCond .lt 19), (430, .aload_n 0), (431, .aload_n 0)], [(432, .getfield 66), (435, .iload_n 1), (436, .iaload), (437, .iload_n 2), (438, .aload 14), (440, .invokevirtual 222), (443, .goto 70), (446, .iload_n 1), (447, .ifCond .ge 23)], [(450, .iload_n 2), (451, .ifCond .lt 19), (454, .aload_n 0), (455, .iconst (-1)), (456, .iload_n 1), (457, .isub), (458, .iload_n 2), (459, .aload 14), (461, .dload 12), (463, .dneg)], [(464, .invokevirtual 226), (467, .goto 46)], [], [], [(513, .return_)]]
theorem z_tk23 : ∀ ch ∈ z_t23, ∀ x ∈ ch, decode (z_cd 23) x.1 = .ok (x.2, z_len x.2) := by decide +kernel
def z_t24 : List (List (Nat × Instr)) := [[(0, .aload_n 0), (1, .getfield 127), (4, .newarray .double), (6, .astore_n 2), (7, .iconst 0), (8, .istore_n 3), (9, .iload_n 3), (10, .aload_n 0), (11, .getfield 82), (14, .iload_n 1), (15, .iaload)], [(16, .if_icmp .ge 41), (19, .aload_n 0), (20, .getfield 27), (23, .aload_n 0), (24, .getfield 76), (27, .iload_n 1), (28, .aaload), (29, .iload_n 3), (30, .iaload), (31, .iaload)], [(32, .istore 4), (34, .iload 4), (36, .ifCond .lt 15), (39, .aload_n 2), (40, .iload 4), (42, .aload_n 0), (43, .getfield 79), (46, .iload_n 1), (47, .aaload)], [(48, .iload_n 3), (49, .daload), (50, .dastore), (51, .iinc 3 1), (54, .goto (-45)), (57, .aload_n 2), (58, .areturn)]]
theorem z_tk24 : ∀ ch ∈ z_t24, ∀ x ∈ ch, decode (z_cd 24) x.1 = .ok (x.2, z_len x.2) := by decide +kernel
def z_t25 : List (List (Nat × Instr)) := [[(0, .aload_n 0), (1, .getfield 76), (4, .iload_n 1), (5, .aaload), (6, .astore 4), (8, .aload_n 0), (9, .getfield 79), (12, .iload_n 1), (13, .aaload), (14, .astore 5)], [(16, .iconst 0), (17, .istore 6), (19, .iload 6), (21, .aload_n 0), (22, .getfield 82), (25, .iload_n 1), (26, .iaload), (27, .if_icmp .ge 43), (30, .aload 4)], [(32, .iload 6), (34, .iaload), (35, .istore 7), (37, .aload_n 0), (38, .getfield 27), (41, .iload 7), (43, .iaload), (44, .ifCond .ge 20), (47, .aload_n 0)], [(48, .getfield 24), (51, .iload 7), (53, .dup2), (54, .daload), (55, .aload 5), (57, .iload 6), (59, .daload), (60, .dload_n 2), (61, .dmul), (62, .dsub), (63, .dastore)], [(64, .iinc 6 1), (67, .goto (-48)), (70, .return_)]]
theorem z_tk25 : ∀ ch ∈ z_t25, ∀ x ∈ ch, decode (z_cd 25) x.1 = .ok (x.2, z_len x.2) := by decide +kernel
def z_t26 : List (List (Nat × Instr)) := [[(0, .aload_n 0), (1, .aload_n 0), (2, .getfield 127), (5, .iconst 1), (6, .iadd), (7, .invokevirtual 246), (10, .aload_n 0), (11, .aload_n 0), (12, .iload_n 1), (13, .invokevirtual 249)], [(16, .invokevirtual 252), (19, .astore 6), (21, .dconst 0), (22, .dstore 7), (24, .iconst 0), (25, .istore 9), (27, .iload 9), (29, .aload_n 0), (30, .getfield 82)], [(33, .iload_n 2), (34, .iaload), (35, .if_icmp .ge 33), (38, .aload_n 0), (39, .getfield 76), (42, .iload_n 2), (43, .aaload), (44, .iload 9), (46, .iaload), (47, .iload_n 1)], [(48, .if_icmp .ne 14), (51, .aload_n 0), (52, .getfield 79), (55, .iload_n 2), (56, .aaload), (57, .iload 9), (59, .daload), (60, .dstore 7), (62, .iinc 9 1)], [(65, .goto (-38)), (68, .aload_n 0), (69, .iload_n 1), (70, .invokevirtual 249), (73, .astore 9), (75, .iconst 0), (76, .istore 10), (78, .iload 10)], [(80, .aload_n 0), (81, .getfield 127), (84, .if_icmp .ge 24)], [(108, .iconst 0), (109, .istore 10), (111, .iload 10)], [(113, .aload_n 0), (114, .getfield 127), (117, .if_icmp .ge 90)], [], [], [], [], [(207, .iconst 0)], [(208, .istore 10), (210, .iload 10), (212, .aload_n 0), (213, .getfield 127), (216, .if_icmp .ge 30)], [], [(246, .aload_n 0), (247, .getfield 37), (250, .aload_n 0), (251, .getfield 127), (254, .aaload), (255, .aload_n 0)], [(256, .getfield 127), (259, .dconst 1), (260, .dload 7), (262, .ddiv), (263, .dastore), (264, .aload_n 0), (265, .getfield 30), (268, .aload_n 0), (269, .getfield 127)], [(272, .iload_n 1), (273, .iastore), (274, .aload_n 0), (275, .getfield 27), (278, .iload_n 1), (279, .aload_n 0), (280, .getfield 127), (283, .iastore), (284, .aload_n 0), (285, .getfield 40)], [(288, .aload_n 0), (289, .getfield 127), (292, .dload 4), (294, .dastore), (295, .aload_n 0), (296, .getfield 33), (299, .aload_n 0), (300, .getfield 127), (303, .iload_n 2)], [(304, .iastore), (305, .aload_n 0), (306, .getfield 66), (309, .iload_n 2), (310, .aload_n 0), (311, .getfield 127), (314, .iastore), (315, .aload_n 0), (316, .dup), (317, .getfield 127)], [(320, .iconst 1), (321, .iadd), (322, .putfield 127), (325, .return_)]]
theorem z_tk26 : ∀ ch ∈ z_t26, ∀ x ∈ ch, decode (z_cd 26) x.1 = .ok (x.2, z_len x.2) := by decide +kernel
def z_t27 : List (List (Nat × Instr)) := [[(0, .iload_n 1), (1, .aload_n 0), (2, .getfield 30), (5, .arraylength), (6, .if_icmp .le 101)], [], [], [], [], [], [(107, .return_)]]
theorem z_tk27 : ∀ ch ∈ z_t27, ∀ x ∈ ch, decode (z_cd 27) x.1 = .ok (x.2, z_len x.2) := by decide +kernel
def z_t28 : List (List (Nat × Instr)) := [[(0, .aload_n 0), (1, .getfield 127), (4, .newarray .double), (6, .astore_n 2), (7, .iconst 0), (8, .istore_n 3), (9, .iload_n 3), (10, .aload_n 0), (11, .getfield 9), (14, .iload_n 1), (15, .aaload)], [(16, .arraylength), (17, .if_icmp .ge 41), (20, .aload_n 0), (21, .getfield 66), (24, .aload_n 0), (25, .getfield 9), (28, .iload_n 1), (29, .aaload), (30, .iload_n 3), (31, .iaload)], [(32, .iaload), (33, .istore 4), (35, .iload 4), (37, .ifCond .lt 15)], [(52, .iinc 3 1), (55, .goto (-46)), (58, .aload_n 2), (59, .areturn)]]
theorem z_tk28 : ∀ ch ∈ z_t28, ∀ x ∈ ch, decode (z_cd 28) x.1 = .ok (x.2, z_len x.2) := by decide +kernel
def z_t29 : List (List (Nat × Instr)) := [[(0, .dconst 0), (1, .dstore_n 1), (2, .iconst 0), (3, .istore_n 3), (4, .iload_n 3), (5, .aload_n 0), (6, .getfield 46), (9, .if_icmp .ge 25), (12, .dload_n 1), (13, .aload_n 0), (14, .getfield 54)], [(17, .iload_n 3), (18, .daload), (19, .aload_n 0), (20, .getfield 63), (23, .iload_n 3), (24, .daload), (25, .dmul), (26, .dadd), (27, .dstore_n 1), (28, .iinc 3 1), (31, .goto (-27))], [(34, .dload_n 1), (35, .dreturn)]]
theorem z_tk29 : ∀ ch ∈ z_t29, ∀ x ∈ ch, decode (z_cd 29) x.1 = .ok (x.2, z_len x.2) := by decide +kernel
def z_t31 : List (List (Nat × Instr)) := [[(0, .aload_n 3), (1, .iload_n 1), (2, .daload), (3, .dstore 4), (5, .iconst 0), (6, .istore 6), (8, .iload 6), (10, .aload_n 0), (11, .getfield 127), (14, .if_icmp .ge 23)], [(17, .aload_n 0), (18, .getfield 37), (21, .iload_n 1), (22, .aaload), (23, .iload 6), (25, .dup2), (26, .daload), (27, .dload 4), (29, .ddiv), (30, .dastore), (31, .iinc 6 1)], [(34, .goto (-26)), (37, .iconst 0), (38, .istore 6), (40, .iload 6), (42, .aload_n 0), (43, .getfield 127), (46, .if_icmp .ge 73)], [(49, .iload 6), (51, .iload_n 1), (52, .if_icmp .eq 61)], [], [], [], [(113, .iinc 6 1), (116, .goto (-76)), (119, .aload_n 0), (120, .getfield 66), (123, .aload_n 0), (124, .getfield 33), (127, .iload_n 1)], [(128, .iaload), (129, .iconst (-1)), (130, .iastore), (131, .aload_n 0), (132, .getfield 33), (135, .iload_n 1), (136, .iload_n 2), (137, .iastore), (138, .aload_n 0), (139, .getfield 66), (142, .iload_n 2), (143, .iload_n 1)], [(144, .iastore), (145, .return_)]]
theorem z_tk31 : ∀ ch ∈ z_t31, ∀ x ∈ ch, decode (z_cd 31) x.1 = .ok (x.2, z_len x.2) := by decide +kernel
def z_tb : Nat → List (List (Nat × Instr))
  | 0 => z_t0
  | 1 => z_t1
  | 3 => z_t3
  | 4 => z_t4
  | 5 => z_t5
  | 6 => z_t6
  | 7 => z_t7
  | 8 => z_t8
  | 9 => z_t9
  | 10 => z_t10
  | 11 => z_t11
  | 12 => z_t12
  | 13 => z_t13
  | 14 => z_t14
  | 15 => z_t15
  | 16 => z_t16
  | 17 => z_t17
  | 18 => z_t18
  | 19 => z_t19
  | 20 => z_t20
  | 23 => z_t23
  | 24 => z_t24
  | 25 => z_t25
  | 26 => z_t26
  | 27 => z_t27
  | 28 => z_t28
  | 29 => z_t29
  | 31 => z_t31
  | _ => []
theorem z_tb_ok (b : Nat) : ∀ ch ∈ z_tb b, ∀ x ∈ ch, decode (z_cd b) x.1 = .ok (x.2, z_len x.2) := by
  unfold z_tb
  split
  · exact z_tk0
  · exact z_tk1
  · exact z_tk3
  · exact z_tk4
  · exact z_tk5
  · exact z_tk6
  · exact z_tk7
  · exact z_tk8
  · exact z_tk9
  · exact z_tk10
  · exact z_tk11
  · exact z_tk12
  · exact z_tk13
  · exact z_tk14
  · exact z_tk15
  · exact z_tk16
  · exact z_tk17
  · exact z_tk18
  · exact z_tk19
  · exact z_tk20
  · exact z_tk23
  · exact z_tk24
  · exact z_tk25
  · exact z_tk26
  · exact z_tk27
  · exact z_tk28
  · exact z_tk29
  · exact z_tk31
  · intro ch h; cases h
def z_dec (b pc : Nat) : Option Instr := (((z_tb b)[pc / 16]?).bind fun ch => ch.find? fun e => e.1 == pc).bind fun e => some e.2
theorem z_dec_ok {b pc : Nat} {i : Instr} (q : z_dec b pc = some i) : decode (z_cd b) pc = .ok (i, z_len i) := by
  obtain ⟨x, q1, q⟩ := z_bnd q
  obtain rfl := Option.some.inj q
  obtain ⟨ch, q2, q3⟩ := z_bnd q1
  have e := List.find?_some q3
  have e' : x.1 = pc := beq_iff_eq.mp e
  subst e'
  exact z_tb_ok b ch (List.mem_of_getElem? q2) x (List.mem_of_find?_eq_some q3)
theorem z_b1 {b : Nat} (h : z_bc b = 1) : (z_nm b).cls = z_DS := by rw [z_bcn, h]; rfl
def z_hst (b F N len : Nat) (i : Instr) (S : List Value) (σ : List ZC) : Option (List Value × List ZC × Nat × Nat) :=
  match i with
  | .getfield ix => z_gd (z_bc b = 1) (o_gf ix S σ)
  | .putfield ix => z_gd (z_bc b = 1) (o_pf b ix S σ)
  | .iaload => o_ald 1 1 z_okI S σ
  | .daload => o_ald 2 2 z_okD S σ
  | .aaload => o_ald 3 4 z_okR S σ
  | .iastore => o_ast 1 z_okI S σ
  | .dastore => o_ast 2 z_okD S σ
  | .aastore => o_aas S σ
  | .arraylength => o_len S σ
  | .newarray ty => o_nw ty S σ
  | .anewarray ix => z_gd (z_bc b = 1) (if ix = 7 then o_new 3 .null S σ else if ix = 15 then o_new 4 .null S σ else none)
  | .multianewarray ix d => z_gd (z_bc b = 1 ∧ d = 2) (if ix = 75 then o_grid 1 (.int 0) S σ else if ix = 36 then o_grid 2 (.double 0) S σ else none)
  | .checkcast ix => z_gd (z_bc b = 1) (o_cast ix S σ)
  | .getstatic ix => z_gd (z_bc b = 1) (o_sta ix S σ)
  | .ldc ix => o_ldc (z_bc b) ix S σ
  | .ldc2_w ix => o_ldc2 (z_bc b) ix S σ
  | .new ix => z_gd (z_bc b = 0 ∧ ix = 15) (o_obj S σ)
  | .invokespecial ix => z_gd (z_bc b = 1 ∧ ix = 1 ∧ len = z_mx b) (o_init F N S σ)
  | .invokevirtual ix => z_gd (z_bc b = 1 ∧ len = z_mx b) (if ix = 50 then o_clone 2 F N z_okD S σ else if ix = 104 then o_clone 1 F N z_okI S σ else none)
  | .invokestatic ix => z_gd (z_bc b = 1 ∧ len = z_mx b) (if ix = 130 then o_abs F N S σ else if ix = 241 then o_mm false F N S σ else if ix = 206 then o_mm true F N S σ else if ix = 258 then o_acp F N S σ else none)
  | _ => none
def z_isI : Option FieldType → Bool
  | some .int => true
  | _ => false
def z_isZ : Option FieldType → Bool
  | some .boolean => true
  | _ => false
def z_isD : Option FieldType → Bool
  | some .double => true
  | _ => false
def z_isR : Option FieldType → Bool
  | some (.object _) => true
  | some (.array _) => true
  | _ => false
def z_rst (rt : Option FieldType) (i : Instr) (S : List Value) : Option (Option Value) :=
  match i with
  | .return_ => z_gd (rt.isNone = true ∧ S.isEmpty = true) (some none)
  | .ireturn => (z_popI S).bind fun a => z_gd (z_isI rt = true ∨ z_isZ rt = true ∧ (a.1 = 0 ∨ a.1 = 1)) (some (some (.int a.1)))
  | .dreturn => (z_pop z_okD S).bind fun a => z_gd (z_isD rt = true) (some (some a.1))
  | .areturn => (z_pop z_okA S).bind fun a => z_gd (z_isR rt = true) (some (some a.1))
  | _ => none
def z_cl : Nat → Nat → Option (Nat × Nat × Nat)
  | 0, 17 => some (3, 1, 3)
  | 1, 69 => some (2, 3, 2)
  | 0, 30 => some (1, 4, 3)
  | 0, 34 => some (1, 5, 1)
  | 0, 38 => some (1, 6, 1)
  | 0, 41 => some (1, 7, 1)
  | 0, 20 => some (1, 8, 3)
  | 1, 105 => some (0, 9, 1)
  | 0, 26 => some (1, 10, 1)
  | 1, 140 => some (0, 11, 0)
  | 1, 214 => some (0, 12, 1)
  | 1, 252 => some (0, 13, 1)
  | 1, 151 => some (0, 14, 0)
  | 1, 163 => some (0, 15, 1)
  | 1, 166 => some (0, 16, 1)
  | 1, 119 => some (0, 17, 1)
  | 1, 238 => some (2, 18, 2)
  | 1, 173 => some (0, 19, 1)
  | 1, 202 => some (0, 20, 2)
  | 1, 179 => some (0, 23, 3)
  | 1, 210 => some (0, 24, 1)
  | 1, 218 => some (0, 25, 2)
  | 1, 226 => some (0, 26, 4)
  | 1, 246 => some (0, 27, 1)
  | 1, 249 => some (0, 28, 1)
  | 1, 189 => some (1, 29, 0)
  | 1, 222 => some (0, 31, 3)
  | _, _ => none
/-- what the sheet's words say of a call -/
def ZT (Z : State) (a0 : Array Value) (c ix kd b na : Nat) : Prop :=
  (Cond.methodLink (z_cn c) ix (z_nm b)).before a0 Z = true ∧ (Cond.initialized (z_nm b).cls).before a0 Z = true ∧ (Cond.code (z_nm b) (z_cd b) (z_mx b) (z_rt b)).before a0 Z = true ∧ ((z_nm b).cls ≠ "java/lang/invoke/MethodHandle" ∧ (z_nm b).cls ≠ "java/lang/invoke/VarHandle") ∧ (∃ ps r, parseMethodDescriptor (z_nm b).desc = some ⟨ps, r⟩ ∧ ps.length = na) ∧ plainFor (z_nm b) = true ∧
  (kd = 0 → (Cond.instanceMethod (z_nm b)).before a0 Z = true ∧ (∃ kk, (Cond.instantiable (z_nm b).cls kk).before a0 Z = true) ∧ (Cond.privateMethod (z_nm b)).before a0 Z = true) ∧
  (kd = 1 → (Cond.declares (z_nm b)).before a0 Z = true ∧ (Cond.selects z_DS (z_nm b) (z_nm b)).before a0 Z = true ∧ (Cond.instanceMethod (z_nm b)).before a0 Z = true) ∧
  (kd = 2 → (Cond.static (z_nm b)).before a0 Z = true) ∧
  (kd = 3 → (z_nm b).name = "<init>" ∧ (Cond.instanceMethod (z_nm b)).before a0 Z = true ∧ z_rt b = none)
theorem z_cl_ok {Z : State} {a0 : Array Value} (hw : ∀ d ∈ tables_1, d.before a0 Z = true) {c ix kd b na : Nat} (q : z_cl c ix = some (kd, b, na)) : ZT Z a0 c ix kd b na := by
  unfold z_cl at q
  split at q
  · cases q; exact ⟨hw _ (List.mem_of_getElem? (i := 7) rfl), (hw _ (List.mem_of_getElem? (i := 6) rfl)), (hw _ (List.mem_of_getElem? (i := 9) rfl)), by decide, ⟨_, _, pd_0, rfl⟩, (plainFor_of_name pn_0), (fun h => absurd h (by decide)), (fun h => absurd h (by decide)), (fun h => absurd h (by decide)), (fun _ => ⟨rfl, (hw _ (List.mem_of_getElem? (i := 8) rfl)), rfl⟩)⟩
  · cases q; exact ⟨hw _ (List.mem_of_getElem? (i := 58) rfl), (hw _ (List.mem_of_getElem? (i := 60) rfl)), (hw _ (List.mem_of_getElem? (i := 61) rfl)), by decide, ⟨_, _, pd_1, rfl⟩, (plainFor_of_name pn_1), (fun h => absurd h (by decide)), (fun h => absurd h (by decide)), (fun _ => (hw _ (List.mem_of_getElem? (i := 59) rfl))), (fun h => absurd h (by decide))⟩
  · cases q; exact ⟨hw _ (List.mem_of_getElem? (i := 73) rfl), (hw _ (List.mem_of_getElem? (i := 6) rfl)), (hw _ (List.mem_of_getElem? (i := 77) rfl)), by decide, ⟨_, _, pd_2, rfl⟩, (plainFor_of_name pn_0), (fun h => absurd h (by decide)), (fun _ => ⟨(hw _ (List.mem_of_getElem? (i := 74) rfl)), (hw _ (List.mem_of_getElem? (i := 76) rfl)), (hw _ (List.mem_of_getElem? (i := 75) rfl))⟩), (fun h => absurd h (by decide)), (fun h => absurd h (by decide))⟩
  · cases q; exact ⟨hw _ (List.mem_of_getElem? (i := 78) rfl), (hw _ (List.mem_of_getElem? (i := 6) rfl)), (hw _ (List.mem_of_getElem? (i := 82) rfl)), by decide, ⟨_, _, pd_3, rfl⟩, (plainFor_of_name pn_0), (fun h => absurd h (by decide)), (fun _ => ⟨(hw _ (List.mem_of_getElem? (i := 79) rfl)), (hw _ (List.mem_of_getElem? (i := 81) rfl)), (hw _ (List.mem_of_getElem? (i := 80) rfl))⟩), (fun h => absurd h (by decide)), (fun h => absurd h (by decide))⟩
  · cases q; exact ⟨hw _ (List.mem_of_getElem? (i := 83) rfl), (hw _ (List.mem_of_getElem? (i := 6) rfl)), (hw _ (List.mem_of_getElem? (i := 87) rfl)), by decide, ⟨_, _, pd_3, rfl⟩, (plainFor_of_name pn_0), (fun h => absurd h (by decide)), (fun _ => ⟨(hw _ (List.mem_of_getElem? (i := 84) rfl)), (hw _ (List.mem_of_getElem? (i := 86) rfl)), (hw _ (List.mem_of_getElem? (i := 85) rfl))⟩), (fun h => absurd h (by decide)), (fun h => absurd h (by decide))⟩
  · cases q; exact ⟨hw _ (List.mem_of_getElem? (i := 88) rfl), (hw _ (List.mem_of_getElem? (i := 6) rfl)), (hw _ (List.mem_of_getElem? (i := 92) rfl)), by decide, ⟨_, _, pd_3, rfl⟩, (plainFor_of_name pn_0), (fun h => absurd h (by decide)), (fun _ => ⟨(hw _ (List.mem_of_getElem? (i := 89) rfl)), (hw _ (List.mem_of_getElem? (i := 91) rfl)), (hw _ (List.mem_of_getElem? (i := 90) rfl))⟩), (fun h => absurd h (by decide)), (fun h => absurd h (by decide))⟩
  · cases q; exact ⟨hw _ (List.mem_of_getElem? (i := 95) rfl), (hw _ (List.mem_of_getElem? (i := 6) rfl)), (hw _ (List.mem_of_getElem? (i := 99) rfl)), by decide, ⟨_, _, pd_4, rfl⟩, (plainFor_of_name pn_0), (fun h => absurd h (by decide)), (fun _ => ⟨(hw _ (List.mem_of_getElem? (i := 96) rfl)), (hw _ (List.mem_of_getElem? (i := 98) rfl)), (hw _ (List.mem_of_getElem? (i := 97) rfl))⟩), (fun h => absurd h (by decide)), (fun h => absurd h (by decide))⟩
  · cases q; exact ⟨hw _ (List.mem_of_getElem? (i := 107) rfl), (hw _ (List.mem_of_getElem? (i := 6) rfl)), (hw _ (List.mem_of_getElem? (i := 110) rfl)), by decide, ⟨_, _, pd_3, rfl⟩, (plainFor_of_name pn_0), (fun _ => ⟨(hw _ (List.mem_of_getElem? (i := 108) rfl)), ⟨_, (hw _ (List.mem_of_getElem? (i := 5) rfl))⟩, (hw _ (List.mem_of_getElem? (i := 109) rfl))⟩), (fun h => absurd h (by decide)), (fun h => absurd h (by decide)), (fun h => absurd h (by decide))⟩
  · cases q; exact ⟨hw _ (List.mem_of_getElem? (i := 112) rfl), (hw _ (List.mem_of_getElem? (i := 6) rfl)), (hw _ (List.mem_of_getElem? (i := 116) rfl)), by decide, ⟨_, _, pd_5, rfl⟩, (plainFor_of_name pn_0), (fun h => absurd h (by decide)), (fun _ => ⟨(hw _ (List.mem_of_getElem? (i := 113) rfl)), (hw _ (List.mem_of_getElem? (i := 115) rfl)), (hw _ (List.mem_of_getElem? (i := 114) rfl))⟩), (fun h => absurd h (by decide)), (fun h => absurd h (by decide))⟩
  · cases q; exact ⟨hw _ (List.mem_of_getElem? (i := 117) rfl), (hw _ (List.mem_of_getElem? (i := 6) rfl)), (hw _ (List.mem_of_getElem? (i := 120) rfl)), by decide, ⟨_, _, pd_6, rfl⟩, (plainFor_of_name pn_0), (fun _ => ⟨(hw _ (List.mem_of_getElem? (i := 118) rfl)), ⟨_, (hw _ (List.mem_of_getElem? (i := 5) rfl))⟩, (hw _ (List.mem_of_getElem? (i := 119) rfl))⟩), (fun h => absurd h (by decide)), (fun h => absurd h (by decide)), (fun h => absurd h (by decide))⟩
  · cases q; exact ⟨hw _ (List.mem_of_getElem? (i := 123) rfl), (hw _ (List.mem_of_getElem? (i := 6) rfl)), (hw _ (List.mem_of_getElem? (i := 126) rfl)), by decide, ⟨_, _, pd_7, rfl⟩, (plainFor_of_name pn_0), (fun _ => ⟨(hw _ (List.mem_of_getElem? (i := 124) rfl)), ⟨_, (hw _ (List.mem_of_getElem? (i := 5) rfl))⟩, (hw _ (List.mem_of_getElem? (i := 125) rfl))⟩), (fun h => absurd h (by decide)), (fun h => absurd h (by decide)), (fun h => absurd h (by decide))⟩
  · cases q; exact ⟨hw _ (List.mem_of_getElem? (i := 127) rfl), (hw _ (List.mem_of_getElem? (i := 6) rfl)), (hw _ (List.mem_of_getElem? (i := 130) rfl)), by decide, ⟨_, _, pd_7, rfl⟩, (plainFor_of_name pn_0), (fun _ => ⟨(hw _ (List.mem_of_getElem? (i := 128) rfl)), ⟨_, (hw _ (List.mem_of_getElem? (i := 5) rfl))⟩, (hw _ (List.mem_of_getElem? (i := 129) rfl))⟩), (fun h => absurd h (by decide)), (fun h => absurd h (by decide)), (fun h => absurd h (by decide))⟩
  · cases q; exact ⟨hw _ (List.mem_of_getElem? (i := 136) rfl), (hw _ (List.mem_of_getElem? (i := 6) rfl)), (hw _ (List.mem_of_getElem? (i := 139) rfl)), by decide, ⟨_, _, pd_8, rfl⟩, (plainFor_of_name pn_0), (fun _ => ⟨(hw _ (List.mem_of_getElem? (i := 137) rfl)), ⟨_, (hw _ (List.mem_of_getElem? (i := 5) rfl))⟩, (hw _ (List.mem_of_getElem? (i := 138) rfl))⟩), (fun h => absurd h (by decide)), (fun h => absurd h (by decide)), (fun h => absurd h (by decide))⟩
  · cases q; exact ⟨hw _ (List.mem_of_getElem? (i := 142) rfl), (hw _ (List.mem_of_getElem? (i := 6) rfl)), (hw _ (List.mem_of_getElem? (i := 145) rfl)), by decide, ⟨_, _, pd_3, rfl⟩, (plainFor_of_name pn_0), (fun _ => ⟨(hw _ (List.mem_of_getElem? (i := 143) rfl)), ⟨_, (hw _ (List.mem_of_getElem? (i := 5) rfl))⟩, (hw _ (List.mem_of_getElem? (i := 144) rfl))⟩), (fun h => absurd h (by decide)), (fun h => absurd h (by decide)), (fun h => absurd h (by decide))⟩
  · cases q; exact ⟨hw _ (List.mem_of_getElem? (i := 146) rfl), (hw _ (List.mem_of_getElem? (i := 6) rfl)), (hw _ (List.mem_of_getElem? (i := 149) rfl)), by decide, ⟨_, _, pd_3, rfl⟩, (plainFor_of_name pn_0), (fun _ => ⟨(hw _ (List.mem_of_getElem? (i := 147) rfl)), ⟨_, (hw _ (List.mem_of_getElem? (i := 5) rfl))⟩, (hw _ (List.mem_of_getElem? (i := 148) rfl))⟩), (fun h => absurd h (by decide)), (fun h => absurd h (by decide)), (fun h => absurd h (by decide))⟩
  · cases q; exact ⟨hw _ (List.mem_of_getElem? (i := 150) rfl), (hw _ (List.mem_of_getElem? (i := 6) rfl)), (hw _ (List.mem_of_getElem? (i := 153) rfl)), by decide, ⟨_, _, pd_9, rfl⟩, (plainFor_of_name pn_0), (fun _ => ⟨(hw _ (List.mem_of_getElem? (i := 151) rfl)), ⟨_, (hw _ (List.mem_of_getElem? (i := 5) rfl))⟩, (hw _ (List.mem_of_getElem? (i := 152) rfl))⟩), (fun h => absurd h (by decide)), (fun h => absurd h (by decide)), (fun h => absurd h (by decide))⟩
  · cases q; exact ⟨hw _ (List.mem_of_getElem? (i := 154) rfl), (hw _ (List.mem_of_getElem? (i := 60) rfl)), (hw _ (List.mem_of_getElem? (i := 156) rfl)), by decide, ⟨_, _, pd_10, rfl⟩, (plainFor_of_name pn_1), (fun h => absurd h (by decide)), (fun h => absurd h (by decide)), (fun _ => (hw _ (List.mem_of_getElem? (i := 155) rfl))), (fun h => absurd h (by decide))⟩
  · cases q; exact ⟨hw _ (List.mem_of_getElem? (i := 157) rfl), (hw _ (List.mem_of_getElem? (i := 6) rfl)), (hw _ (List.mem_of_getElem? (i := 160) rfl)), by decide, ⟨_, _, pd_11, rfl⟩, (plainFor_of_name pn_0), (fun _ => ⟨(hw _ (List.mem_of_getElem? (i := 158) rfl)), ⟨_, (hw _ (List.mem_of_getElem? (i := 5) rfl))⟩, (hw _ (List.mem_of_getElem? (i := 159) rfl))⟩), (fun h => absurd h (by decide)), (fun h => absurd h (by decide)), (fun h => absurd h (by decide))⟩
  · cases q; exact ⟨hw _ (List.mem_of_getElem? (i := 161) rfl), (hw _ (List.mem_of_getElem? (i := 6) rfl)), (hw _ (List.mem_of_getElem? (i := 164) rfl)), by decide, ⟨_, _, pd_12, rfl⟩, (plainFor_of_name pn_0), (fun _ => ⟨(hw _ (List.mem_of_getElem? (i := 162) rfl)), ⟨_, (hw _ (List.mem_of_getElem? (i := 5) rfl))⟩, (hw _ (List.mem_of_getElem? (i := 163) rfl))⟩), (fun h => absurd h (by decide)), (fun h => absurd h (by decide)), (fun h => absurd h (by decide))⟩
  · cases q; exact ⟨hw _ (List.mem_of_getElem? (i := 173) rfl), (hw _ (List.mem_of_getElem? (i := 6) rfl)), (hw _ (List.mem_of_getElem? (i := 176) rfl)), by decide, ⟨_, _, pd_13, rfl⟩, (plainFor_of_name pn_0), (fun _ => ⟨(hw _ (List.mem_of_getElem? (i := 174) rfl)), ⟨_, (hw _ (List.mem_of_getElem? (i := 5) rfl))⟩, (hw _ (List.mem_of_getElem? (i := 175) rfl))⟩), (fun h => absurd h (by decide)), (fun h => absurd h (by decide)), (fun h => absurd h (by decide))⟩
  · cases q; exact ⟨hw _ (List.mem_of_getElem? (i := 177) rfl), (hw _ (List.mem_of_getElem? (i := 6) rfl)), (hw _ (List.mem_of_getElem? (i := 180) rfl)), by decide, ⟨_, _, pd_14, rfl⟩, (plainFor_of_name pn_0), (fun _ => ⟨(hw _ (List.mem_of_getElem? (i := 178) rfl)), ⟨_, (hw _ (List.mem_of_getElem? (i := 5) rfl))⟩, (hw _ (List.mem_of_getElem? (i := 179) rfl))⟩), (fun h => absurd h (by decide)), (fun h => absurd h (by decide)), (fun h => absurd h (by decide))⟩
  · cases q; exact ⟨hw _ (List.mem_of_getElem? (i := 181) rfl), (hw _ (List.mem_of_getElem? (i := 6) rfl)), (hw _ (List.mem_of_getElem? (i := 184) rfl)), by decide, ⟨_, _, pd_15, rfl⟩, (plainFor_of_name pn_0), (fun _ => ⟨(hw _ (List.mem_of_getElem? (i := 182) rfl)), ⟨_, (hw _ (List.mem_of_getElem? (i := 5) rfl))⟩, (hw _ (List.mem_of_getElem? (i := 183) rfl))⟩), (fun h => absurd h (by decide)), (fun h => absurd h (by decide)), (fun h => absurd h (by decide))⟩
  · cases q; exact ⟨hw _ (List.mem_of_getElem? (i := 185) rfl), (hw _ (List.mem_of_getElem? (i := 6) rfl)), (hw _ (List.mem_of_getElem? (i := 188) rfl)), by decide, ⟨_, _, pd_16, rfl⟩, (plainFor_of_name pn_0), (fun _ => ⟨(hw _ (List.mem_of_getElem? (i := 186) rfl)), ⟨_, (hw _ (List.mem_of_getElem? (i := 5) rfl))⟩, (hw _ (List.mem_of_getElem? (i := 187) rfl))⟩), (fun h => absurd h (by decide)), (fun h => absurd h (by decide)), (fun h => absurd h (by decide))⟩
  · cases q; exact ⟨hw _ (List.mem_of_getElem? (i := 189) rfl), (hw _ (List.mem_of_getElem? (i := 6) rfl)), (hw _ (List.mem_of_getElem? (i := 192) rfl)), by decide, ⟨_, _, pd_9, rfl⟩, (plainFor_of_name pn_0), (fun _ => ⟨(hw _ (List.mem_of_getElem? (i := 190) rfl)), ⟨_, (hw _ (List.mem_of_getElem? (i := 5) rfl))⟩, (hw _ (List.mem_of_getElem? (i := 191) rfl))⟩), (fun h => absurd h (by decide)), (fun h => absurd h (by decide)), (fun h => absurd h (by decide))⟩
  · cases q; exact ⟨hw _ (List.mem_of_getElem? (i := 193) rfl), (hw _ (List.mem_of_getElem? (i := 6) rfl)), (hw _ (List.mem_of_getElem? (i := 196) rfl)), by decide, ⟨_, _, pd_14, rfl⟩, (plainFor_of_name pn_0), (fun _ => ⟨(hw _ (List.mem_of_getElem? (i := 194) rfl)), ⟨_, (hw _ (List.mem_of_getElem? (i := 5) rfl))⟩, (hw _ (List.mem_of_getElem? (i := 195) rfl))⟩), (fun h => absurd h (by decide)), (fun h => absurd h (by decide)), (fun h => absurd h (by decide))⟩
  · cases q; exact ⟨hw _ (List.mem_of_getElem? (i := 199) rfl), (hw _ (List.mem_of_getElem? (i := 6) rfl)), (hw _ (List.mem_of_getElem? (i := 203) rfl)), by decide, ⟨_, _, pd_17, rfl⟩, (plainFor_of_name pn_0), (fun h => absurd h (by decide)), (fun _ => ⟨(hw _ (List.mem_of_getElem? (i := 200) rfl)), (hw _ (List.mem_of_getElem? (i := 202) rfl)), (hw _ (List.mem_of_getElem? (i := 201) rfl))⟩), (fun h => absurd h (by decide)), (fun h => absurd h (by decide))⟩
  · cases q; exact ⟨hw _ (List.mem_of_getElem? (i := 208) rfl), (hw _ (List.mem_of_getElem? (i := 6) rfl)), (hw _ (List.mem_of_getElem? (i := 211) rfl)), by decide, ⟨_, _, pd_18, rfl⟩, (plainFor_of_name pn_0), (fun _ => ⟨(hw _ (List.mem_of_getElem? (i := 209) rfl)), ⟨_, (hw _ (List.mem_of_getElem? (i := 5) rfl))⟩, (hw _ (List.mem_of_getElem? (i := 210) rfl))⟩), (fun h => absurd h (by decide)), (fun h => absurd h (by decide)), (fun h => absurd h (by decide))⟩
  · cases q
def z_cst (b len : Nat) (i : Instr) (S : List Value) (σ : List ZC) : Option (Nat × List Value × List Value) :=
  match i with
  | .invokestatic ix => (z_cl (z_bc b) ix).bind fun e => z_gd (e.1 = 2 ∧ e.2.2 ≤ S.length ∧ len = z_mx b) (some (e.2.1, (S.take e.2.2).reverse, S.drop e.2.2))
  | .invokevirtual ix => (z_cl (z_bc b) ix).bind fun e => (z_popR (S.drop e.2.2)).bind fun r => (z_look σ r.1).bind fun c => z_gd ((e.1 = 0 ∨ e.1 = 1) ∧ e.2.2 ≤ S.length ∧ c.1 = 0 ∧ len = z_mx b) (some (e.2.1, .ref r.1 :: (S.take e.2.2).reverse, r.2))
  | .invokespecial ix => (z_cl (z_bc b) ix).bind fun e => (z_popR (S.drop e.2.2)).bind fun r => z_gd (e.1 = 3 ∧ e.2.2 ≤ S.length ∧ len = z_mx b) (some (e.2.1, .ref r.1 :: (S.take e.2.2).reverse, r.2))
  | _ => none
def z_need (b : Nat) (rest : List Value) : Nat := (rest.map z_cat).sum + (z_mx b + 11)
def z_step (sg : Nat → Int32) (go : Nat → Nat → Nat → Nat → List Slot → List Value → List ZC → Nat → Nat → Option (Option Value × List ZC × Nat × Nat)) (b F N pc : Nat) (L : List Slot) (S : List Value) (σ : List ZC) (c s : Nat) : Option (Option Value × List ZC × Nat × Nat) :=
  match z_dec b pc with
  | none => none
  | some i =>
    match z_pst sg i pc L S with
    | some r => go b F N r.1 r.2.1 r.2.2 σ c s
    | none =>
      match z_hst b F N L.length i S σ with
      | some r => go b F N (pc + z_len i) L r.1 r.2.1 (c + r.2.2.1) (s + r.2.2.2)
      | none =>
        match z_rst (z_rt b) i S with
        | some v => some (v, σ, c, s)
        | none =>
          match z_cst b L.length i S σ with
          | some q => z_gd (1 ≤ F ∧ z_need q.1 q.2.2 ≤ N) (
            match go q.1 (F - 1) (N - z_need q.1 q.2.2) 0 (z_ent q.2.1 (z_mx q.1)) [] σ 0 0 with
            | some r => go b F N (pc + 3) L (r.1.toList ++ q.2.2) r.2.1 (c + r.2.2.1) (s + r.2.2.2)
            | none => none)
          | none => none
def z_ev (sg : Nat → Int32) : Nat → Nat → Nat → Nat → Nat → List Slot → List Value → List ZC → Nat → Nat → Option (Option Value × List ZC × Nat × Nat)
  | 0 => fun _ _ _ _ _ _ _ _ _ => none
  | n + 1 => z_step sg (z_ev sg n)
theorem z_mono {sg : Nat → Int32} : ∀ {n b F N pc : Nat} {L : List Slot} {S : List Value} {σ : List ZC} {c s : Nat} {v : Option Value} {σ' : List ZC} {c' s' : Nat}, z_ev sg n b F N pc L S σ c s = some (v, σ', c', s') → c ≤ c' ∧ s ≤ s' := by
  intro n
  induction n with
  | zero => intro b F N pc L S σ c s v σ' c' s' q; cases q
  | succ n ih =>
    intro b F N pc L S σ c s v σ' c' s' q
    have q : z_step sg (z_ev sg n) b F N pc L S σ c s = some (v, σ', c', s') := q
    unfold z_step at q
    split at q
    · cases q
    · split at q
      · exact ih q
      · split at q
        · have := ih q; omega
        · split at q
          · obtain ⟨-, -, rfl, rfl⟩ := z_inj4 q; exact ⟨Nat.le_refl _, Nat.le_refl _⟩
          · split at q
            · obtain ⟨-, q⟩ := z_gdd q
              split at q
              · have := ih q; omega
              · cases q
            · cases q
section Run
variable {p : Program} {l : Launch} {e : Env} {R : Room} {s : State} {m : MethodId} {args : Array Value} {below : List Frame} {meth : Method} {c : Code} {Z : State} {own nm : String} {bytes : ByteArray} {maxL : Nat} {ret : Option FieldType} {n0 : Nat} {a0 : Array Value}
  {T : State} {h h' : Heap} {cells slots : Nat} {Q : Option Value → Heap → Prop} {Ls : Array Slot} {st : List Value} {pc n : Nat} {ι : Nat → Int32} {sg : Nat → Int32} {ρ : List Addr} {L L' : List Slot} {S S' : List Value}
variable {σ σ' : List ZC} {dc ds b F N : Nat}
theorem z_hst_ok (hw : ∀ d ∈ tables_1, d.before a0 Z = true) (SO : ∃ so : Addr, Sta Z Z.heap "com/example/hertzbid/hertzbid/mechanisms/DualSimplex$Status" "OPTIMAL" "Lcom/example/hertzbid/hertzbid/mechanisms/DualSimplex$Status;" (.ref so)) (SI : ∃ so : Addr, Sta Z Z.heap "com/example/hertzbid/hertzbid/mechanisms/DualSimplex$Status" "ITERATION_LIMIT" "Lcom/example/hertzbid/hertzbid/mechanisms/DualSimplex$Status;" (.ref so)) {i : Instr} {len : Nat} (P : Jvm.Own.Pos p l e R s m args below meth c Z (z_nm b).cls (z_nm b).name (z_cd b) (z_mx b) (z_rt b) n0 T h cells slots) (hd : decode (z_cd b) pc = .ok (i, z_len i)) (hsz : Ls.size = len) (hF : F ≤ R.frames) (hN : N ≤ R.locals) (I : ZI ι Z n0 h ρ σ) (HS : ZR (ZV ι ρ) S st) (rc : cells + dc ≤ R.cells) (rs : slots + ds ≤ R.slots) (q : z_hst b F N len i S σ = some (S', σ', dc, ds))
    (E : ∀ T h' ρ' st', Jvm.Own.Pos p l e R s m args below meth c Z (z_nm b).cls (z_nm b).name (z_cd b) (z_mx b) (z_rt b) n0 T h' (cells + dc) (slots + ds) → ZI ι Z n0 h' ρ' σ' → (∃ t, ρ' = ρ ++ t) → ZR (ZV ι ρ') S' st' → Jvm.Own.Ends p e below s R n0 Q T (mkF m (pc + z_len i) Ls st')) : Jvm.Own.Ends p e below s R n0 Q T (mkF m pc Ls st) := by
  unfold z_hst at q
  split at q
  · have z9 := z_gdd q; clear q; obtain ⟨g1, q⟩ := z9
    exact o_gf_ok hw P hd (z_b1 g1) I HS rc rs q E
  · have z9 := z_gdd q; clear q; obtain ⟨g1, q⟩ := z9
    exact o_pf_ok hw P hd (z_b1 g1) (fun h => by subst h; rfl) I HS rc rs q E
  · exact o_ia_ok hw P hd I HS rc rs q E
  · exact o_da_ok hw P hd I HS rc rs q E
  · exact o_aa_ok hw P hd I HS rc rs q E
  · exact o_is_ok hw P hd I HS rc rs q E
  · exact o_ds_ok hw P hd I HS rc rs q E
  · exact o_aas_ok hw P hd I HS rc rs q E
  · exact o_len_ok hw P hd I HS rc rs q E
  · unfold o_nw at q
    split at q
    · exact o_new1_ok hw P hd I HS rc rs q E
    · exact o_new2_ok hw P hd I HS rc rs q E
    · cases q
  · have z9 := z_gdd q; clear q; obtain ⟨g1, q⟩ := z9
    split at q
    · rename_i g2; subst g2; exact o_new3_ok hw P hd (z_b1 g1) I HS rc rs q E
    · split at q
      · rename_i g2; subst g2; exact o_new4_ok hw P hd (z_b1 g1) I HS rc rs q E
      · cases q
  · have z9 := z_gdd q; clear q; obtain ⟨⟨g1, g3⟩, q⟩ := z9
    subst g3
    split at q
    · rename_i g2; subst g2; exact o_grid1_ok hw P hd (z_b1 g1) I HS rc rs q E
    · split at q
      · rename_i g2; subst g2; exact o_grid2_ok hw P hd (z_b1 g1) I HS rc rs q E
      · cases q
  · have z9 := z_gdd q; clear q; obtain ⟨g1, q⟩ := z9
    exact o_cast_ok hw P hd (z_b1 g1) I HS rc rs q E
  · have z9 := z_gdd q; clear q; obtain ⟨g1, q⟩ := z9
    exact o_sta_ok hw P hd (z_b1 g1) SO SI I HS rc rs q E
  · exact o_ldc_ok hw P hd (z_bcn b) I HS rc rs q E
  · exact o_ldc2_ok hw P hd (z_bcn b) I HS rc rs q E
  · have z9 := z_gdd q; clear q; obtain ⟨⟨g1, g3⟩, q⟩ := z9
    subst g3
    exact o_obj_ok hw P hd (by rw [z_bcn, g1]) I HS rc rs q E
  · have z9 := z_gdd q; clear q; obtain ⟨⟨g1, g2, g3⟩, q⟩ := z9
    subst g2
    exact o_init_ok hw P hd (z_b1 g1) (hsz.trans g3) hF hN I HS rc rs q E
  · have z9 := z_gdd q; clear q; obtain ⟨⟨g1, g3⟩, q⟩ := z9
    split at q
    · rename_i g2; subst g2; exact o_clone2_ok hw P hd (z_b1 g1) (hsz.trans g3) hF hN I HS rc rs q E
    · split at q
      · rename_i g2; subst g2; exact o_clone1_ok hw P hd (z_b1 g1) (hsz.trans g3) hF hN I HS rc rs q E
      · cases q
  · have z9 := z_gdd q; clear q; obtain ⟨⟨g1, g3⟩, q⟩ := z9
    split at q
    · rename_i g2; subst g2; exact o_abs_ok hw P hd (z_b1 g1) (hsz.trans g3) hF hN I HS rc rs q E
    split at q
    · rename_i g2; subst g2; exact o_min_ok hw P hd (z_b1 g1) (hsz.trans g3) hF hN I HS rc rs q E
    split at q
    · rename_i g2; subst g2; exact o_max_ok hw P hd (z_b1 g1) (hsz.trans g3) hF hN I HS rc rs q E
    split at q
    · rename_i g2; subst g2; exact o_acp_ok hw P hd (z_b1 g1) (hsz.trans g3) hF hN I HS rc rs q E
    cases q
  · cases q
theorem z_rst_ok {i : Instr} {v : Option Value} (P : Jvm.Own.Pos p l e R s m args below meth c Z own nm bytes maxL ret n0 T h cells slots) (hd : decode bytes pc = .ok (i, z_len i)) (HS : ZR (ZV ι ρ) S st) (rc : cells ≤ R.cells) (rs : slots ≤ R.slots) (q : z_rst ret i S = some v) (E : ∀ w, ZO ι ρ v w → Q w h) : Jvm.Own.Ends p e below s R n0 Q T (mkF m pc Ls st) := by
  unfold z_rst at q
  split at q
  · obtain ⟨⟨g1, g2⟩, q⟩ := z_gdd q
    obtain rfl := Option.some.inj q
    obtain rfl : S = [] := List.isEmpty_iff.mp g2
    obtain rfl : st = [] := HS
    obtain rfl : ret = none := Option.isNone_iff_eq_none.mp g1
    exact retV P hd rc rs (E none rfl)
  · obtain ⟨a, q1, q⟩ := z_bnd q
    obtain ⟨g, q⟩ := z_gdd q
    obtain rfl := Option.some.inj q
    have e1 := z_popI_ok q1
    subst e1
    obtain ⟨_, _, rfl, hx, hs⟩ := HS
    obtain rfl : _ = Value.int _ := hx
    rcases g with g | ⟨g, g2⟩
    · unfold z_isI at g; split at g
      · exact retI P hd rc rs (E _ ⟨_, rfl, rfl⟩)
      · cases g
    · unfold z_isZ at g; split at g
      · exact retZ P hd g2 rc rs (E _ ⟨_, rfl, rfl⟩)
      · cases g
  · obtain ⟨a, q1, q⟩ := z_bnd q
    obtain ⟨g, q⟩ := z_gdd q
    obtain rfl := Option.some.inj q
    obtain ⟨e1, o⟩ := z_pop_ok q1
    subst e1
    obtain ⟨w, _, rfl, hx, hs⟩ := HS
    obtain ⟨x, rfl⟩ := z_okD_v o hx
    unfold z_isD at g; split at g
    · exact retD P hd rc rs (E _ ⟨_, rfl, hx⟩)
    · cases g
  · obtain ⟨a, q1, q⟩ := z_bnd q
    obtain ⟨g, q⟩ := z_gdd q
    obtain rfl := Option.some.inj q
    obtain ⟨e1, o⟩ := z_pop_ok q1
    subst e1
    obtain ⟨w, _, rfl, hx, hs⟩ := HS
    have hr := z_okA_v o hx
    unfold z_isR at g; split at g
    · exact retR P hd hr rc rs (E _ ⟨_, rfl, hx⟩)
    · exact retRA P hd hr rc rs (E _ ⟨_, rfl, hx⟩)
    · cases g
  · cases q
theorem z_cut {k : Nat} (HS : ZR (ZV ι ρ) S st) (le : k ≤ S.length) : ∃ A B, st = A ++ B ∧ ZR (ZV ι ρ) (S.take k) A ∧ ZR (ZV ι ρ) (S.drop k) B ∧ A.length = k := by
  rw [← List.take_append_drop k S] at HS
  obtain ⟨A, B, rfl, h1, h2⟩ := ZR.split HS
  exact ⟨A, B, rfl, h1, h2, by rw [ZR.len h1, List.length_take]; omega⟩
theorem z_cst_ok (hw : ∀ d ∈ tables_1, d.before a0 Z = true) {i : Instr} {len b' : Nat} {as rest : List Value} (P : Jvm.Own.Pos p l e R s m args below meth c Z (z_nm b).cls (z_nm b).name (z_cd b) (z_mx b) (z_rt b) n0 T h cells slots) (hd : decode (z_cd b) pc = .ok (i, z_len i)) (hsz : Ls.size = len) (I : ZI ι Z n0 h ρ σ) (HS : ZR (ZV ι ρ) S st) (q : z_cst b len i S σ = some (b', as, rest)) {rm : Room} {Qc : Option Value → Heap → Prop}
    (hM : plainFor (z_nm b') = true → ∀ asr, ZR (ZV ι ρ) as asr → Meth l Z (z_nm b') (z_cd b') (z_mx b') (z_rt b') rm asr.toArray h n0 Qc) (hf : rm.frames + 1 ≤ R.frames) (hl : z_need b' rest + rm.locals ≤ R.locals) (rc : cells + rm.cells ≤ R.cells) (rs : slots + rm.slots ≤ R.slots)
    (E : ∀ T h' v rr, Jvm.Own.Pos p l e R s m args below meth c Z (z_nm b).cls (z_nm b).name (z_cd b) (z_mx b) (z_rt b) n0 T h' (cells + rm.cells) (slots + rm.slots) → Qc v h' → ZR (ZV ι ρ) rest rr → Jvm.Own.Ends p e below s R n0 Q T (mkF m (pc + 3) Ls (v.toList ++ rr))) : Jvm.Own.Ends p e below s R n0 Q T (mkF m pc Ls st) := by
  unfold z_need at hl
  unfold z_cst at q
  split at q
  · obtain ⟨t, q1, q⟩ := z_bnd q
    obtain ⟨⟨g1, g2, g3⟩, q⟩ := z_gdd q
    obtain ⟨rfl, rfl, rfl⟩ := z_inj3 q
    obtain ⟨w1, w2, w3, hy, ⟨ps, r, hp, hn⟩, pl, -, -, k2, -⟩ := z_cl_ok hw q1
    obtain ⟨A, B, rfl, h1, h2, ln⟩ := z_cut HS g2
    rw [← z_bcn b] at w1
    exact callS P hd (argsL := A.reverse) (rest := B) (hM pl _ (ZR.rev h1)) w1 (k2 g1) w2 w3 hy hp (by rw [List.length_reverse, ln, hn]) (by rw [List.reverse_reverse]) (hsz.trans g3) ⟨hf, by rw [z_sum h2]; exact hl, rc, rs⟩ rfl fun T h' v P qc => E T h' v _ P qc h2
  · obtain ⟨t, q1, q⟩ := z_bnd q
    obtain ⟨r0, q2, q⟩ := z_bnd q
    obtain ⟨cl, q3, q⟩ := z_bnd q
    obtain ⟨⟨g1, g2, g4, g3⟩, q⟩ := z_gdd q
    obtain ⟨rfl, rfl, rfl⟩ := z_inj3 q
    obtain ⟨w1, w2, w3, hy, ⟨ps, r, hp, hn⟩, pl, k0, k1, -, -⟩ := z_cl_ok hw q1
    obtain ⟨A, B, rfl, h1, h2, ln⟩ := z_cut HS g2
    rw [z_popR_ok q2] at h2
    obtain ⟨_, rr, rfl, ⟨x, rfl, hx⟩, hs⟩ := h2
    obtain ⟨C, lo, hr⟩ := I.at q3 hx
    obtain ⟨E0, -, -⟩ := C.obj g4
    rw [← z_bcn b] at w1
    rcases g1 with g1 | g1
    · obtain ⟨u1, ⟨kk, u2⟩, u3⟩ := k0 g1
      exact callP P hd (a := x) (argsL := A.reverse) (rest := rr) (hM pl _ (ZR.cons ⟨x, rfl, hx⟩ (ZR.rev h1))) E0 w1 u1 u2 u3 w2 w3 hy hp (by rw [List.length_reverse, ln, hn]) (by rw [List.reverse_reverse]) (hsz.trans g3) ⟨hf, by rw [z_sum hs]; exact hl, rc, rs⟩ rfl fun T h' v P qc => E T h' v _ P qc hs
    · obtain ⟨u1, u2, u3⟩ := k1 g1
      exact callV P hd (a := x) (argsL := A.reverse) (rest := rr) (hM pl _ (ZR.cons ⟨x, rfl, hx⟩ (ZR.rev h1))) E0 w1 u1 (notFace_of_selects (args := #[]) (mvT P.hZ u2)) u2 u3 w2 w3 hy hp (by rw [List.length_reverse, ln, hn]) (by rw [List.reverse_reverse]) (hsz.trans g3) ⟨hf, by rw [z_sum hs]; exact hl, rc, rs⟩ rfl fun T h' v P qc => E T h' v _ P qc hs
  · obtain ⟨t, q1, q⟩ := z_bnd q
    obtain ⟨r0, q2, q⟩ := z_bnd q
    obtain ⟨⟨g1, g2, g3⟩, q⟩ := z_gdd q
    obtain ⟨rfl, rfl, rfl⟩ := z_inj3 q
    obtain ⟨w1, w2, w3, hy, ⟨ps, r, hp, hn⟩, pl, -, -, -, k3⟩ := z_cl_ok hw q1
    obtain ⟨A, B, rfl, h1, h2, ln⟩ := z_cut HS g2
    rw [z_popR_ok q2] at h2
    obtain ⟨_, rr, rfl, ⟨x, rfl, hx⟩, hs⟩ := h2
    rw [← z_bcn b] at w1
    obtain ⟨u1, u2, u3⟩ := k3 g1
    have hM' := hM pl _ (ZR.cons ⟨x, rfl, hx⟩ (ZR.rev h1))
    rw [u3] at hM' w3
    exact callN P hd (a := x) (argsL := A.reverse) (rest := rr) hM' u1 w1 u2 w2 w3 hy hp (by rw [List.length_reverse, ln, hn]) (by rw [List.reverse_reverse]) (hsz.trans g3) ⟨hf, by rw [z_sum hs]; exact hl, rc, rs⟩ rfl fun T h' v P qc => E T h' v _ P qc hs
  · cases q
end Run
theorem z_ev_ok {l : Launch} {Z : State} {a0 : Array Value} (hw : ∀ d ∈ tables_1, d.before a0 Z = true) (SO : ∃ so : Addr, Sta Z Z.heap "com/example/hertzbid/hertzbid/mechanisms/DualSimplex$Status" "OPTIMAL" "Lcom/example/hertzbid/hertzbid/mechanisms/DualSimplex$Status;" (.ref so)) (SI : ∃ so : Addr, Sta Z Z.heap "com/example/hertzbid/hertzbid/mechanisms/DualSimplex$Status" "ITERATION_LIMIT" "Lcom/example/hertzbid/hertzbid/mechanisms/DualSimplex$Status;" (.ref so)) {ι sg : Nat → Int32} (G : ZG ι sg) {n0 : Nat} : ∀ {n b F N pc : Nat} {L : List Slot} {S : List Value} {σ : List ZC} {cc ss : Nat} {v : Option Value} {σ' : List ZC} {c' s' : Nat}, z_ev sg n b F N pc L S σ cc ss = some (v, σ', c', s') →
    ∀ {p : Program} {e : Env} {R : Room} {s : State} {m : MethodId} {args : Array Value} {below : List Frame} {meth : Method} {c : Code} {T : State} {h : Heap} {Q : Option Value → Heap → Prop} {ρ : List Addr} {Ls : Array Slot} {st : List Value}, Jvm.Own.Pos p l e R s m args below meth c Z (z_nm b).cls (z_nm b).name (z_cd b) (z_mx b) (z_rt b) n0 T h cc ss → F ≤ R.frames → N ≤ R.locals → c' ≤ R.cells → s' ≤ R.slots → ZI ι Z n0 h ρ σ → ZR (ZS ι ρ) L Ls.toList → ZR (ZV ι ρ) S st →
      (∀ h' ρ' w, ZI ι Z n0 h' ρ' σ' → (∃ t, ρ' = ρ ++ t) → ZO ι ρ' v w → Q w h') → Jvm.Own.Ends p e below s R n0 Q T (mkF m pc Ls st) := by
  intro n
  induction n with
  | zero => intro b F N pc L S σ cc ss v σ' c' s' q; cases q
  | succ n ih =>
    intro b F N pc L S σ cc ss v σ' c' s' q p e R s m args below meth c T h Q ρ Ls st P hF hN hc hs I HL HS HQ
    have q : z_step sg (z_ev sg n) b F N pc L S σ cc ss = some (v, σ', c', s') := q
    have hsz : Ls.size = L.length := by have := ZR.len HL; simpa using this
    unfold z_step at q
    split at q
    · cases q
    · rename_i i hd
      have hd := z_dec_ok hd
      split at q
      · rename_i r hp
        obtain ⟨pc', L', S'⟩ := r
        exact z_pst_ok G P hd HL HS hp fun Ls' st' HL' HS' => ih q P hF hN hc hs I HL' HS' HQ
      · split at q
        · rename_i r hh
          obtain ⟨S', σ1, dc, ds⟩ := r
          have mo := z_mono q
          refine z_hst_ok hw SO SI P hd hsz hF hN I HS (Nat.le_trans mo.1 hc) (Nat.le_trans mo.2 hs) hh ?_
          rintro T h' ρ' st' P' I' ⟨t, rfl⟩ HS'
          exact ih q P' hF hN hc hs I' (ZR.mono (fun _ _ => ZS.mono) HL) HS' fun h2 ρ2 w I2 ⟨t2, e2⟩ o => HQ h2 ρ2 w I2 ⟨t ++ t2, by rw [e2, List.append_assoc]⟩ o
        · split at q
          · rename_i v0 hr
            obtain ⟨rfl, rfl, rfl, rfl⟩ := z_inj4 q
            exact z_rst_ok P hd HS hc hs hr fun w o => HQ h ρ w I ⟨[], (List.append_nil _).symm⟩ o
          · split at q
            · rename_i t hcs
              obtain ⟨b', as, rest⟩ := t
              obtain ⟨⟨f1, f2⟩, q⟩ := z_gdd q
              split at q
              · rename_i r hr
                obtain ⟨v1, σ1, c1, s1⟩ := r
                have mo := z_mono q
                have f2 : z_need b' rest ≤ N := f2
                refine z_cst_ok hw P hd hsz I HS hcs (rm := { frames := F - 1, cells := c1, slots := s1, locals := N - z_need b' rest }) (Qc := fun w h2 => ∃ ρ2, ZI ι Z n0 h2 ρ2 σ1 ∧ (∃ t, ρ2 = ρ ++ t) ∧ ZO ι ρ2 v1 w) ?_ ?_ ?_ (Nat.le_trans mo.1 hc) (Nat.le_trans mo.2 hs) ?_
                · intro pl asr HA
                  refine Meth.of pl P.low ?_
                  intro p2 e2 s2 m2 args2 below2 meth2 cd2 T2 P2
                  rw [z_entry]
                  exact ih hr P2 (Nat.le_refl _) (Nat.le_refl _) (Nat.le_refl _) (Nat.le_refl _) I (z_ent_ok _ HA) ZR.nil fun h2 ρ2 w I2 x o => ⟨ρ2, I2, x, o⟩
                · show F - 1 + 1 ≤ R.frames; omega
                · show z_need b' rest + (N - z_need b' rest) ≤ R.locals; omega
                · rintro T h' w rr P' ⟨ρ2, I2, ⟨t, rfl⟩, o⟩ HR
                  have HS' : ZR (ZV ι (ρ ++ t)) (v1.toList ++ rest) (w.toList ++ rr) := by
                    refine ZR.app ?_ (ZR.mono (fun _ _ => ZV.mono) HR)
                    cases v1 with
                    | none => obtain rfl : w = none := o; exact ZR.nil
                    | some y => obtain ⟨z, rfl, k⟩ := o; exact ZR.cons k ZR.nil
                  exact ih q P' hF hN hc hs I2 (ZR.mono (fun _ _ => ZS.mono) HL) HS' fun h2 ρ3 w I3 ⟨t2, e2⟩ o => HQ h2 ρ3 w I3 ⟨t ++ t2, by rw [e2, List.append_assoc]⟩ o
              · cases q
            · cases q
def z_L (a b : Nat) (mode k : Int32) : List Slot := [.val (.retAddr 4), .val (.retAddr a), .val (.retAddr b), .val (.retAddr 2), .val (.retAddr 3), .val (.int mode), .val (.int k), .val (.int (1 - k))] ++ List.replicate 24 .unset
def z_chk (sg : Nat → Int32) (L : List Slot) : Bool :=
  match z_ev sg 6000 0 7 224 18 L [] [] 0 0 with
  | some (some (.int x), _, c, s) => x == 1 && decide (c ≤ 136) && decide (s ≤ 1088)
  | _ => false
def z_sg (s0 s1 : Int32) : Nat → Int32 := fun k => if k = 0 then s0 else s1
def own_i (l : List Int32) : Nat → Int32 := fun k => l.getD k 0
set_option maxRecDepth 65536 in
set_option maxHeartbeats 40000000 in
theorem z_k00 : ∀ s0 ∈ ([-1, 0, 1] : List Int32), ∀ s1 ∈ ([-1, 0, 1] : List Int32), z_chk (z_sg s0 s1) (z_L 0 1 0 0) = true := by decide +kernel
set_option maxRecDepth 65536 in
set_option maxHeartbeats 40000000 in
theorem z_k01 : ∀ s0 ∈ ([-1, 0, 1] : List Int32), ∀ s1 ∈ ([-1, 0, 1] : List Int32), z_chk (z_sg s0 s1) (z_L 0 1 0 1) = true := by decide +kernel
set_option maxRecDepth 65536 in
set_option maxHeartbeats 40000000 in
theorem z_k10 : ∀ s0 ∈ ([-1, 0, 1] : List Int32), ∀ s1 ∈ ([-1, 0, 1] : List Int32), z_chk (z_sg s0 s1) (z_L 0 1 1 0) = true := by decide +kernel
set_option maxRecDepth 65536 in
set_option maxHeartbeats 40000000 in
theorem z_k11 : ∀ s0 ∈ ([-1, 0, 1] : List Int32), ∀ s1 ∈ ([-1, 0, 1] : List Int32), z_chk (z_sg s0 s1) (z_L 0 1 1 1) = true := by decide +kernel
set_option maxRecDepth 65536 in
set_option maxHeartbeats 40000000 in
theorem z_k20 : z_chk (z_sg 0 0) (z_L 5 6 2 0) = true := by decide +kernel
set_option maxRecDepth 65536 in
set_option maxHeartbeats 40000000 in
theorem z_k21 : z_chk (z_sg 0 0) (z_L 5 6 2 1) = true := by decide +kernel
set_option maxRecDepth 65536 in
set_option maxHeartbeats 40000000 in
theorem z_k30 : z_chk (z_sg 0 0) (z_L 5 6 3 0) = true := by decide +kernel
set_option maxRecDepth 65536 in
set_option maxHeartbeats 40000000 in
theorem z_k31 : z_chk (z_sg 0 0) (z_L 5 6 3 1) = true := by decide +kernel
theorem z_sgn_mem (x : Int32) : z_sgn x ∈ ([-1, 0, 1] : List Int32) := by
  rcases z_sgn_cases x with h | h | h <;> rw [h] <;> decide
theorem own_G (x y u v w : Int32) : ZG (own_i [x, y, u, v, w]) (z_sg (z_sgn x) (z_sgn y)) := by
  intro k hk
  match k, hk with
  | 0, _ => exact z_sgn_ok x
  | 1, _ => exact z_sgn_ok y
theorem own_G0 (u v w x y : Int32) : ZG (own_i [0, 0, u, v, w, x, y]) (z_sg 0 0) := by
  intro k hk
  match k, hk with
  | 0, _ => exact z_sgn_ok 0
  | 1, _ => exact z_sgn_ok 0
theorem own_L {a b : Nat} {mode k p0 p1 p2 p3 p4 : Int32} {l : List Int32} (h4 : own_i l 4 = p0) (ha : own_i l a = p1) (hb : own_i l b = p2) (h2 : own_i l 2 = p3) (h3 : own_i l 3 = p4) : ZR (ZS (own_i l) []) (z_L a b mode k) (#[.val (.int p0), .val (.int p1), .val (.int p2), .val (.int p3), .val (.int p4), .val (.int mode), .val (.int k), .val (.int (1 - k)), .unset, .unset, .unset, .unset, .unset, .unset, .unset, .unset, .unset, .unset, .unset, .unset, .unset, .unset, .unset, .unset, .unset, .unset, .unset, .unset, .unset, .unset, .unset, .unset] : Array Slot).toList := by
  subst h4 ha hb h2 h3
  exact ZR.cons ⟨_, rfl, rfl⟩ (ZR.cons ⟨_, rfl, rfl⟩ (ZR.cons ⟨_, rfl, rfl⟩ (ZR.cons ⟨_, rfl, rfl⟩ (ZR.cons ⟨_, rfl, rfl⟩ (ZR.cons ⟨_, rfl, rfl⟩ (ZR.cons ⟨_, rfl, rfl⟩ (ZR.cons ⟨_, rfl, rfl⟩ (ZR.rep (show ZS (own_i l) [] .unset .unset from rfl) 24))))))))
theorem own_fin {l : Launch} {Z : State} {a0 : Array Value} (hw : ∀ d ∈ tables_1, d.before a0 Z = true) (SO : ∃ so : Addr, Sta Z Z.heap "com/example/hertzbid/hertzbid/mechanisms/DualSimplex$Status" "OPTIMAL" "Lcom/example/hertzbid/hertzbid/mechanisms/DualSimplex$Status;" (.ref so)) (SI : ∃ so : Addr, Sta Z Z.heap "com/example/hertzbid/hertzbid/mechanisms/DualSimplex$Status" "ITERATION_LIMIT" "Lcom/example/hertzbid/hertzbid/mechanisms/DualSimplex$Status;" (.ref so)) {ι sg : Nat → Int32} (G : ZG ι sg) {n0 : Nat} {h : Heap} (O : Old Z n0 h) {L : List Slot} (q : z_chk sg L = true)
    {p : Program} {e : Env} {s : State} {m : MethodId} {args : Array Value} {below : List Frame} {meth : Method} {c : Code} {T : State} {Ls : Array Slot} (P : Jvm.Own.Pos p l e room_1 s m args below meth c Z x.cls x.name code maxLocals ret n0 T h 0 0) (HL : ZR (ZS ι []) L Ls.toList) : Jvm.Own.Ends p e below s room_1 n0 (fun v _ => v = some (.int 1)) T (mkF m 18 Ls []) := by
  unfold z_chk at q
  split at q
  · rename_i y σ' c' s' hq
    simp only [Bool.and_eq_true, beq_iff_eq, decide_eq_true_eq] at q
    obtain ⟨⟨rfl, h1⟩, h2⟩ := q
    refine z_ev_ok hw SO SI G (b := 0) hq P (by decide) (by decide) h1 h2 ⟨O, rfl, fun i j a e => by simp at e, fun i a e => by simp at e, fun i a c e => by simp at e⟩ HL ZR.nil ?_
    intro h' ρ' w _ _ o
    obtain ⟨y, rfl, k⟩ := o
    obtain rfl : y = _ := k
    rfl
  · cases q
theorem own_m5 (x : Int32) : x &&& 3 = 0 ∨ x &&& 3 = 1 ∨ x &&& 3 = 2 ∨ x &&& 3 = 3 := by
  have h := n_mask (x := x) (m := 3) 2 rfl rfl ⟨by decide, by decide⟩
  have e0 : (0 : Int32).toInt = 0 := by decide
  have e1 : (1 : Int32).toInt = 1 := by decide
  have e2 : (2 : Int32).toInt = 2 := by decide
  have e3 : (3 : Int32).toInt = 3 := by decide
  have : (x &&& 3).toInt = 0 ∨ (x &&& 3).toInt = 1 ∨ (x &&& 3).toInt = 2 ∨ (x &&& 3).toInt = 3 := by omega
  rcases this with h | h | h | h
  · exact Or.inl (eqI (h.trans e0.symm))
  · exact Or.inr (Or.inl (eqI (h.trans e1.symm)))
  · exact Or.inr (Or.inr (Or.inl (eqI (h.trans e2.symm))))
  · exact Or.inr (Or.inr (Or.inr (eqI (h.trans e3.symm))))
theorem own_m6 (x : Int32) : x &&& 1 = 0 ∨ x &&& 1 = 1 := by
  have h := n_mask (x := x) (m := 1) 1 rfl rfl ⟨by decide, by decide⟩
  have e0 : (0 : Int32).toInt = 0 := by decide
  have e1 : (1 : Int32).toInt = 1 := by decide
  have : (x &&& 1).toInt = 0 ∨ (x &&& 1).toInt = 1 := by omega
  rcases this with h | h
  · exact Or.inl (eqI (h.trans e0.symm))
  · exact Or.inr (eqI (h.trans e1.symm))
theorem ef_0 (m : MethodId) (p0 : Int32) (p1 : Int32) (p2 : Int32) (p3 : Int32) (p4 : Int32) : entryFrame m #[(.int p0), (.int p1), (.int p2), (.int p3), (.int p4)] maxLocals = mkF m 0 #[.val (.int p0), .val (.int p1), .val (.int p2), .val (.int p3), .val (.int p4), .unset, .unset, .unset, .unset, .unset, .unset, .unset, .unset, .unset, .unset, .unset, .unset, .unset, .unset, .unset, .unset, .unset, .unset, .unset, .unset, .unset, .unset, .unset, .unset, .unset, .unset, .unset] [] := by first | (simp [entryFrame, mkF, argsToLocals, Value.category, maxLocals]; done) | rfl
set_option maxRecDepth 65536 in
set_option maxHeartbeats 40000000 in
theorem rm_law (l : Launch) (Z : State) (a0 : Array Value) (hw : ∀ d ∈ tables_1, d.before a0 Z = true) (p0 : Int32) (p1 : Int32) (p2 : Int32) (p3 : Int32) (p4 : Int32)  (h0 : Heap) (n0 : Nat) (low : n0 ≤ h0.size) (SO : ∃ so : Addr, Sta Z Z.heap "com/example/hertzbid/hertzbid/mechanisms/DualSimplex$Status" "OPTIMAL" "Lcom/example/hertzbid/hertzbid/mechanisms/DualSimplex$Status;" (.ref so)) (SI : ∃ so : Addr, Sta Z Z.heap "com/example/hertzbid/hertzbid/mechanisms/DualSimplex$Status" "ITERATION_LIMIT" "Lcom/example/hertzbid/hertzbid/mechanisms/DualSimplex$Status;" (.ref so)) (Old9 : Old Z n0 h0) :
    Meth l Z x code maxLocals ret room_1 #[(.int p0), (.int p1), (.int p2), (.int p3), (.int p4)] h0 n0 (fun v _ => v = some (.int 1)) := by
  refine Meth.of (plainFor_of_name pn_2) low ?_
  intro p e s m args below meth c T P
  refine Ends.cast (ef_0 m p0 p1 p2 p3 p4) ?_
  refine iloadN P at_0 rfl (n := 1) rfl ?_
  refine iconst P at_1 (x := (3 : Int32)) rfl (n := 2) rfl ?_
  refine iand P at_2 (n := 3) rfl ?_
  refine istore P at_3 (l' := #[.val (.int p0), .val (.int p1), .val (.int p2), .val (.int p3), .val (.int p4), .val (.int (p0 &&& (3 : Int32))), .unset, .unset, .unset, .unset, .unset, .unset, .unset, .unset, .unset, .unset, .unset, .unset, .unset, .unset, .unset, .unset, .unset, .unset, .unset, .unset, .unset, .unset, .unset, .unset, .unset, .unset]) rfl (n := 5) rfl ?_
  refine iloadN P at_5 rfl (n := 6) rfl ?_
  refine iconst P at_6 (x := (2 : Int32)) rfl (n := 7) rfl ?_
  refine iushr P at_7 (n := 8) rfl ?_
  refine iconst P at_8 (x := (1 : Int32)) rfl (n := 9) rfl ?_
  refine iand P at_9 (n := 10) rfl ?_
  refine istore P at_10 (l' := #[.val (.int p0), .val (.int p1), .val (.int p2), .val (.int p3), .val (.int p4), .val (.int (p0 &&& (3 : Int32))), .val (.int (((p0.toUInt32 >>> ((2 : Int32) &&& 31).toUInt32).toInt32) &&& (1 : Int32))), .unset, .unset, .unset, .unset, .unset, .unset, .unset, .unset, .unset, .unset, .unset, .unset, .unset, .unset, .unset, .unset, .unset, .unset, .unset, .unset, .unset, .unset, .unset, .unset, .unset]) rfl (n := 12) rfl ?_
  refine iconst P at_12 (x := (1 : Int32)) rfl (n := 13) rfl ?_
  refine iload P at_13 rfl (n := 15) rfl ?_
  refine isub P at_15 (n := 16) rfl ?_
  refine istore P at_16 (l' := #[.val (.int p0), .val (.int p1), .val (.int p2), .val (.int p3), .val (.int p4), .val (.int (p0 &&& (3 : Int32))), .val (.int (((p0.toUInt32 >>> ((2 : Int32) &&& 31).toUInt32).toInt32) &&& (1 : Int32))), .val (.int ((1 : Int32) - (((p0.toUInt32 >>> ((2 : Int32) &&& 31).toUInt32).toInt32) &&& (1 : Int32)))), .unset, .unset, .unset, .unset, .unset, .unset, .unset, .unset, .unset, .unset, .unset, .unset, .unset, .unset, .unset, .unset, .unset, .unset, .unset, .unset, .unset, .unset, .unset, .unset]) rfl (n := 18) rfl ?_
  have k6 : (((p0.toUInt32 >>> ((2 : Int32) &&& 31).toUInt32).toInt32) &&& (1 : Int32)) = 0 ∨ (((p0.toUInt32 >>> ((2 : Int32) &&& 31).toUInt32).toInt32) &&& (1 : Int32)) = 1 := own_m6 _
  have k5 : (p0 &&& (3 : Int32)) = 0 ∨ (p0 &&& (3 : Int32)) = 1 ∨ (p0 &&& (3 : Int32)) = 2 ∨ (p0 &&& (3 : Int32)) = 3 := own_m5 p0
  rcases k6 with k6 | k6 <;> rcases k5 with k5 | k5 | k5 | k5 <;> rw [k5, k6]
  · exact own_fin hw SO SI (own_G p1 p2 p3 p4 p0) Old9 (z_k00 _ (z_sgn_mem p1) _ (z_sgn_mem p2)) P (own_L rfl rfl rfl rfl rfl)
  · exact own_fin hw SO SI (own_G p1 p2 p3 p4 p0) Old9 (z_k10 _ (z_sgn_mem p1) _ (z_sgn_mem p2)) P (own_L rfl rfl rfl rfl rfl)
  · exact own_fin hw SO SI (own_G0 p3 p4 p0 p1 p2) Old9 z_k20 P (own_L rfl rfl rfl rfl rfl)
  · exact own_fin hw SO SI (own_G0 p3 p4 p0 p1 p2) Old9 z_k30 P (own_L rfl rfl rfl rfl rfl)
  · exact own_fin hw SO SI (own_G p1 p2 p3 p4 p0) Old9 (z_k01 _ (z_sgn_mem p1) _ (z_sgn_mem p2)) P (own_L rfl rfl rfl rfl rfl)
  · exact own_fin hw SO SI (own_G p1 p2 p3 p4 p0) Old9 (z_k11 _ (z_sgn_mem p1) _ (z_sgn_mem p2)) P (own_L rfl rfl rfl rfl rfl)
  · exact own_fin hw SO SI (own_G0 p3 p4 p0 p1 p2) Old9 z_k21 P (own_L rfl rfl rfl rfl rfl)
  · exact own_fin hw SO SI (own_G0 p3 p4 p0 p1 p2) Old9 z_k31 P (own_L rfl rfl rfl rfl rfl)
set_option maxRecDepth 65536 in
set_option maxHeartbeats 40000000 in
theorem comes_1 {Post : Tables → Env → Array Value → State → Outcome → State → Prop} (hpost : ∀ tb e args s v u, (limb_1_1.after args s (.returned v) u = true ∧ limb_1_2.after args s (.returned v) u = true ∧ True) → FrameEnd s (.returned v) u (Jvm.fieldLocs frame_1_writes args s ++ Jvm.arrayLocs frame_1_arrays args s ++ Jvm.staticLocs frame_1_statics s) 136 1088 → Post tb e args s (.returned v) u) :
    ArmFor flags0 classFile x code maxLocals ret World_1 tables_1 room_1 Calls_1 rest_1 Pre_1 Post := by
  intro l hfl _ _ p e ha hc hk s m args below hf hA hF happ hP
  obtain ⟨hcalls, hrest, hpre⟩ := hP
  obtain ⟨-, -, -, hnamed, -, -, -, hat⟩ := (Spec.applies_iff hf).mp happ
  obtain ⟨hg, hn⟩ := and_e (Cond.before_iff.mp (show (Jvm.Cond.and given_1 narrow_1).before args s = true from hpre))
  obtain ⟨q0, g0⟩ := and_e hg
  obtain ⟨w0, w1, w2, w3, w4, rfl⟩ : ∃ w0 w1 w2 w3 w4 : Value, args = #[w0, w1, w2, w3, w4] := by
    have hs : args.size = 5 := by simpa [Cond.value, given_1] using q0
    obtain ⟨L⟩ := args
    match L, hs with
    | [w0, w1, w2, w3, w4], _ => exact ⟨w0, w1, w2, w3, w4, rfl⟩
  have hw := fun d (hd : d ∈ tables_1) => atoms_spec (ws := Jvm.Cond.code x code maxLocals ret :: tables_1) hat d (List.mem_cons_of_mem _ hd)
  obtain ⟨q1, g1⟩ := and_e g0
  obtain ⟨i0, e0⟩ := is_v q1
  obtain rfl : w0 = (.int i0) := Option.some.inj e0
  obtain ⟨q2, g2⟩ := and_e g1
  obtain ⟨i1, e1⟩ := is_v q2
  obtain rfl : w1 = (.int i1) := Option.some.inj e1
  obtain ⟨q3, g3⟩ := and_e g2
  obtain ⟨i2, e2⟩ := is_v q3
  obtain rfl : w2 = (.int i2) := Option.some.inj e2
  obtain ⟨q4, g4⟩ := and_e g3
  obtain ⟨i3, e3⟩ := is_v q4
  obtain rfl : w3 = (.int i3) := Option.some.inj e3
  have q5 := g4
  obtain ⟨i4, e4⟩ := is_v q5
  obtain rfl : w4 = (.int i4) := Option.some.inj e4
  obtain ⟨e_OPTIMAL, hn⟩ := and_e hn
  have e_ITERATION_LIMIT := hn
  obtain ⟨x_SO, v_OPTIMAL⟩ := exa_v e_OPTIMAL
  have SO : ∃ so : Addr, Sta s s.heap "com/example/hertzbid/hertzbid/mechanisms/DualSimplex$Status" "OPTIMAL" "Lcom/example/hertzbid/hertzbid/mechanisms/DualSimplex$Status;" (.ref so) := ⟨x_SO, Sta.start v_OPTIMAL (Or.inr ⟨(hw _ (List.mem_of_getElem? (i := 213) rfl)), (hw _ (List.mem_of_getElem? (i := 214) rfl))⟩)⟩
  obtain ⟨x_SI, v_ITERATION_LIMIT⟩ := exa_v e_ITERATION_LIMIT
  have SI : ∃ so : Addr, Sta s s.heap "com/example/hertzbid/hertzbid/mechanisms/DualSimplex$Status" "ITERATION_LIMIT" "Lcom/example/hertzbid/hertzbid/mechanisms/DualSimplex$Status;" (.ref so) := ⟨x_SI, Sta.start v_ITERATION_LIMIT (Or.inr ⟨(hw _ (List.mem_of_getElem? (i := 213) rfl)), (hw _ (List.mem_of_getElem? (i := 217) rfl))⟩)⟩
  obtain ⟨n, o, h1, h2, h3, _, L, rfl, ⟨rfl, N⟩, hq⟩ := rm_law l s _ hw i0 i1 i2 i3 i4 s.heap s.heap.size (Nat.le_refl _) SO SI (Old.start s) tables_1 p e ha hc hk s m _ below hf ((Spec.applies_iff_loose hf).mp happ).1 ⟨rfl, State.Warmed39.refl s, rfl⟩ trivial
  refine ⟨n, _, h1, h2, h3, hpost _ _ _ _ _ _ ⟨Cond.after_iff.mpr rfl, Cond.after_iff.mpr (eq_i res_at (Term.int_eval (1)) rfl), trivial⟩ ⟨hq.1, hq.2.1, (hq.2.2.sift fun y hy => Or.inr (N y hy)).mono (by decide) (by decide)⟩⟩
theorem main_1_1 : Claimed_1_1 := comes_1 fun _ _ _ _ _ _ h hF => ⟨h.1, hF⟩
theorem main_1_2 : Claimed_1_2 := comes_1 fun _ _ _ _ _ _ h hF => ⟨h.2.1, hF⟩
end Jvm.Pilot.@@N@@
namespace Jvm.Pilot.@@N@@
open Jvm Jvm.ClassFile Sem Op Lib Jvm.Free Jvm.Stand Jvm.Pilot.@@N@@.Jvm.D
/-! MADE BY PROGRAM (witnessworld.py) out of the Statement's table words and the real class files: 20 classes; the members and pool entries that the words name. The judged class is class 1, her method 1. -/
namespace start1
open Jvm.ClassFile
def u (s : String) : CpInfo := .utf8 (stringToUtf16 s)
/-- a pool by its gaps: so many unusable entries, then the entry; so many at the end -/
def gap : Nat → List CpInfo → List CpInfo
  | 0, r => r
  | n + 1, r => .unusable :: gap n r
def poolList (es : List (Nat × CpInfo)) (last : Nat) : List CpInfo := es.foldr (fun e r => gap e.1 (e.2 :: r)) (gap last [])
def pool (es : List (Nat × CpInfo)) (last : Nat) : Array CpInfo := ⟨poolList es last⟩
def fileOf (pool : Array CpInfo) (this : Nat) (attrs : Array Attribute := #[]) (ms : Array MethodInfo := #[]) (fl : Nat := 33) (sup : Nat := 0) (ifs : Array Nat := #[]) (fds : Array FieldInfo := #[]) : ClassFile where
  minorVersion := 0
  majorVersion := 65
  constantPool := pool
  accessFlags := fl
  thisClass := this
  superClass := sup
  interfaces := ifs
  fields := fds
  methods := ms
  attributes := attrs
def plain (name : String) (sup : Option ClassId) : Class where
  name := name
  kind := .ordinary
  loader := none
  accessFlags := 33
  super := sup
  interfaces := #[]
  cf := none
  fields := #[]
  methods := #[]
  instanceTypes := #[]
  staticTypes := #[]
  resolved := #[]
  callSites := []
  init := .initialized
  statics := none
  mirror := none

def pool0 : Array CpInfo := pool [(5, u "<init>"), (0, u "()V"), (1, .class_ 10), (1, u "java/lang/Object"), (85, u "clone"), (0, u "()Ljava/lang/Object;")] 26

def k0c0 : Code := { maxStack := 0, maxLocals := 1, code := object_method_1_code, exceptionTable := #[], attributes := #[] }
def k0m0 : Method := { name := "<init>", desc := "()V", sig := { parameters := [], returnType := none }, accessFlags := 1, code := some k0c0 }
def k0m1 : Method := { name := "clone", desc := "()Ljava/lang/Object;", sig := { parameters := [], returnType := some (.object "java/lang/Object") }, accessFlags := 260, code := none }
/-- java/lang/Object -/
def k0 : Class := { plain "java/lang/Object" none with
  accessFlags := 33
  interfaces := #[]
  cf := some (fileOf pool0 8 #[] #[{ accessFlags := 1, nameIndex := 5, descriptorIndex := 6, attributes := #[] }, { accessFlags := 260, nameIndex := 96, descriptorIndex := 97, attributes := #[] }] 33 0 #[] #[])
  fields := #[]
  methods := #[k0m0, k0m1]
  instanceTypes := #[]
  staticTypes := #[]
  resolved := Array.replicate 124 none
  statics := none }

def pool1 : Array CpInfo := pool [(2, .class_ 4), (1, u "java/lang/Object"), (0, u "<init>"), (0, u "()V"), (0, .double 13835058055282163712), (1, .double 4611686018427387904), (1, .double 13842939354630062080), (1, .double 4621256167635550208), (1, .class_ 16), (0, u "com/example/hertzbid/hertzbid/mechanisms/DualSimplex"), (0, .methodref 15 18), (0, .nameAndType 5 19), (0, u "([D[D[D)V"), (0, .methodref 15 21), (0, .nameAndType 22 23), (0, u "addRow"), (0, u "([I[DD)I"), (0, .long 10), (1, .methodref 15 27), (0, .nameAndType 28 29), (0, u "solve"), (0, u "(J)Lcom/example/hertzbid/hertzbid/mechanisms/DualSimplex$Status;"), (0, .methodref 15 31), (0, .nameAndType 32 33), (0, u "setBounds"), (0, u "(IDD)V"), (0, .methodref 15 35), (0, .nameAndType 36 37), (0, u "lower"), (0, u "(I)D"), (0, .methodref 15 39), (0, .nameAndType 40 37), (0, u "upper"), (0, .methodref 15 42), (0, .nameAndType 43 37), (0, u "value"), (0, .class_ 45), (0, u "com/example/hertzbid/hertzbid/mechanisms/DualSimplexSetBoundsPinLaw"), (2, u "law"), (0, u "(IIIII)Z")] 11

def k1m0 : Method := { name := "<init>", desc := "()V", sig := { parameters := [], returnType := none }, accessFlags := 1, code := none }
def k1c1 : Code := { maxStack := 7, maxLocals := 32, code := code, exceptionTable := #[], attributes := #[] }
def k1m1 : Method := { name := "law", desc := "(IIIII)Z", sig := { parameters := [.int, .int, .int, .int, .int], returnType := some .boolean }, accessFlags := 9, code := some k1c1 }
/-- com/example/hertzbid/hertzbid/mechanisms/DualSimplexSetBoundsPinLaw -/
def k1 : Class := { plain "com/example/hertzbid/hertzbid/mechanisms/DualSimplexSetBoundsPinLaw" (some 0) with
  accessFlags := 49
  interfaces := #[]
  cf := some (fileOf pool1 44 #[] #[{ accessFlags := 1, nameIndex := 5, descriptorIndex := 6, attributes := #[] }, { accessFlags := 9, nameIndex := 48, descriptorIndex := 49, attributes := #[] }] 49 2 #[] #[])
  fields := #[]
  methods := #[k1m0, k1m1]
  instanceTypes := #[]
  staticTypes := #[]
  resolved := Array.replicate 61 none
  statics := none }

def pool2 : Array CpInfo := pool [(1, .methodref 2 3), (0, .class_ 4), (0, .nameAndType 5 6), (0, u "java/lang/Object"), (0, u "<init>"), (0, u "()V"), (0, .class_ 8), (0, u "[I"), (0, .fieldref 10 11), (0, .class_ 12), (0, .nameAndType 13 14), (0, u "com/example/hertzbid/hertzbid/mechanisms/DualSimplex"), (0, u "rowColumns"), (0, u "[[I"), (0, .class_ 16), (0, u "[D"), (0, .fieldref 10 18), (0, .nameAndType 19 20), (0, u "rowCoefficients"), (0, u "[[D"), (0, .fieldref 10 22), (0, .nameAndType 23 16), (0, u "bound"), (0, .fieldref 10 25), (0, .nameAndType 26 16), (0, u "slack"), (0, .fieldref 10 28), (0, .nameAndType 29 8), (0, u "rowPlace"), (0, .fieldref 10 31), (0, .nameAndType 32 8), (0, u "tight"), (0, .fieldref 10 34), (0, .nameAndType 35 8), (0, u "basic"), (0, .class_ 20), (0, .fieldref 10 38), (0, .nameAndType 39 20), (0, u "inverse"), (0, .fieldref 10 41), (0, .nameAndType 42 16), (0, u "price"), (0, .fieldref 10 44), (0, .nameAndType 45 16), (0, u "pivotSlack"), (0, .fieldref 10 47), (0, .nameAndType 48 49), (0, u "columns"), (0, u "I"), (0, .methodref 15 51), (0, .nameAndType 52 53), (0, u "clone"), (0, u "()Ljava/lang/Object;"), (0, .fieldref 10 55), (0, .nameAndType 56 16), (0, u "cost"), (0, .fieldref 10 58), (0, .nameAndType 59 16), (0, u "lower"), (0, .fieldref 10 61), (0, .nameAndType 62 16), (0, u "upper"), (0, .fieldref 10 64), (0, .nameAndType 65 16), (0, u "value"), (0, .fieldref 10 67), (0, .nameAndType 68 8), (0, u "columnPlace"), (0, .methodref 70 71), (0, .class_ 72), (0, .nameAndType 73 74), (0, u "java/util/Arrays"), (0, u "fill"), (0, u "([II)V"), (0, .class_ 14), (0, .fieldref 10 77), (0, .nameAndType 78 14), (0, u "columnRows"), (0, .fieldref 10 80), (0, .nameAndType 81 20), (0, u "columnCoefficients"), (0, .fieldref 10 83), (0, .nameAndType 84 8), (0, u "columnLengths"), (0, .fieldref 10 86), (0, .nameAndType 87 16), (0, u "reduced"), (0, .fieldref 10 89), (0, .nameAndType 90 16), (0, u "pivotRow"), (0, .fieldref 10 92), (0, .nameAndType 93 49), (0, u "rows"), (10, .methodref 7 51), (0, .methodref 10 106), (0, .nameAndType 107 108), (0, u "dot"), (0, u "(I)D"), (1, .class_ 112), (1, u "java/lang/Math"), (1, u "(D)D"), (4, .methodref 10 120), (0, .nameAndType 121 122), (0, u "computePivotRow"), (0, u "(I)V"), (4, .fieldref 10 128), (0, .nameAndType 129 49), (0, u "size"), (0, .methodref 110 131), (0, .nameAndType 132 114), (0, u "abs"), (0, .double 4472406533629990549), (1, .class_ 136), (0, u "com/example/hertzbid/hertzbid/mechanisms/DualSimplex$Row"), (3, .methodref 10 141), (0, .nameAndType 142 6), (0, u "refresh"), (2, .double 9218868437227405312), (4, u "()I"), (0, .methodref 10 152), (0, .nameAndType 153 150), (0, u "leaving"), (2, .integer 2147483648), (0, .fieldref 158 159), (0, .class_ 160), (0, .nameAndType 161 162), (0, u "com/example/hertzbid/hertzbid/mechanisms/DualSimplex$Status"), (0, u "OPTIMAL"), (0, u "Lcom/example/hertzbid/hertzbid/mechanisms/DualSimplex$Status;"), (0, .methodref 10 164), (0, .nameAndType 165 108), (0, u "leavingValue"), (0, .methodref 10 167), (0, .nameAndType 168 108), (0, u "leavingLower"), (3, u "(Z)I"), (0, .methodref 10 174), (0, .nameAndType 175 172), (0, u "entering"), (3, .methodref 10 180), (0, .nameAndType 181 182), (0, u "step"), (0, u "(IIZ)V"), (0, .fieldref 10 184), (0, .nameAndType 185 49), (0, u "updates"), (3, .methodref 10 190), (0, .nameAndType 191 192), (0, u "objective"), (0, u "()D"), (0, .fieldref 158 194), (0, .nameAndType 195 162), (0, u "ITERATION_LIMIT"), (0, .double 4502148214488346440), (3, .double 13830554455654793216), (1, .methodref 10 203), (0, .nameAndType 204 205), (0, u "movable"), (0, u "(ID)Z"), (0, .methodref 110 207), (0, .nameAndType 208 209), (0, u "max"), (0, u "(DD)D"), (0, .methodref 10 211), (0, .nameAndType 212 213), (0, u "onTight"), (0, u "(I)[D"), (0, .methodref 10 215), (0, .nameAndType 216 217), (0, u "times"), (0, u "([D)[D"), (0, .methodref 10 219), (0, .nameAndType 220 221), (0, u "moveSlacks"), (0, u "(ID)V"), (0, .methodref 10 223), (0, .nameAndType 224 225), (0, u "replaceColumn"), (0, u "(II[D)V"), (0, .methodref 10 227), (0, .nameAndType 228 229), (0, u "grow"), (0, u "(II[DD)V"), (8, .methodref 70 239), (0, .nameAndType 73 240), (0, u "([DD)V"), (0, .methodref 110 242), (0, .nameAndType 243 209), (0, u "min"), (0, .double 13695778570484766357), (1, .methodref 10 247), (0, .nameAndType 248 122), (0, u "ensureKernel"), (0, .methodref 10 250), (0, .nameAndType 251 213), (0, u "onBasic"), (0, .methodref 10 253), (0, .nameAndType 254 217), (0, u "timesLeft"), (3, .methodref 259 260), (0, .class_ 261), (0, .nameAndType 262 263), (0, u "java/lang/System"), (0, u "arraycopy"), (0, u "(Ljava/lang/Object;ILjava/lang/Object;II)V"), (5, u "FEASIBLE"), (0, u "D"), (1, u "DUAL_FEASIBLE"), (0, u "PIVOT"), (0, u "BLAND_PIVOT"), (0, u "STALL"), (1, u "REFRESH"), (1, u "([D[D[D)V"), (3, u "addRow"), (0, u "([I[DD)I"), (1, u "setBounds"), (0, u "(IDD)V"), (5, u "solve"), (0, u "(J)Lcom/example/hertzbid/hertzbid/mechanisms/DualSimplex$Status;")] 6

def k2c0 : Code := { maxStack := 6, maxLocals := 5, code := prog_4_method_1_code, exceptionTable := #[], attributes := #[] }
def k2m0 : Method := { name := "<init>", desc := "([D[D[D)V", sig := { parameters := [(.array .double), (.array .double), (.array .double)], returnType := none }, accessFlags := 0, code := some k2c0 }
def k2c1 : Code := { maxStack := 6, maxLocals := 8, code := prog_4_method_3_code, exceptionTable := #[], attributes := #[] }
def k2m1 : Method := { name := "addRow", desc := "([I[DD)I", sig := { parameters := [(.array .int), (.array .double), .double], returnType := some .int }, accessFlags := 0, code := some k2c1 }
def k2c2 : Code := { maxStack := 6, maxLocals := 6, code := prog_4_method_5_code, exceptionTable := #[], attributes := #[] }
def k2m2 : Method := { name := "setBounds", desc := "(IDD)V", sig := { parameters := [.int, .double, .double], returnType := none }, accessFlags := 0, code := some k2c2 }
def k2c3 : Code := { maxStack := 2, maxLocals := 2, code := prog_4_method_6_code, exceptionTable := #[], attributes := #[] }
def k2m3 : Method := { name := "lower", desc := "(I)D", sig := { parameters := [.int], returnType := some .double }, accessFlags := 0, code := some k2c3 }
def k2c4 : Code := { maxStack := 2, maxLocals := 2, code := prog_4_method_7_code, exceptionTable := #[], attributes := #[] }
def k2m4 : Method := { name := "upper", desc := "(I)D", sig := { parameters := [.int], returnType := some .double }, accessFlags := 0, code := some k2c4 }
def k2c5 : Code := { maxStack := 2, maxLocals := 2, code := prog_4_method_8_code, exceptionTable := #[], attributes := #[] }
def k2m5 : Method := { name := "value", desc := "(I)D", sig := { parameters := [.int], returnType := some .double }, accessFlags := 0, code := some k2c5 }
def k2c6 : Code := { maxStack := 6, maxLocals := 4, code := prog_4_method_10_code, exceptionTable := #[], attributes := #[] }
def k2m6 : Method := { name := "objective", desc := "()D", sig := { parameters := [], returnType := some .double }, accessFlags := 0, code := some k2c6 }
def k2c7 : Code := { maxStack := 6, maxLocals := 14, code := prog_4_method_13_code, exceptionTable := #[], attributes := #[] }
def k2m7 : Method := { name := "solve", desc := "(J)Lcom/example/hertzbid/hertzbid/mechanisms/DualSimplex$Status;", sig := { parameters := [.long], returnType := some (.object "com/example/hertzbid/hertzbid/mechanisms/DualSimplex$Status") }, accessFlags := 0, code := some k2c7 }
def k2c8 : Code := { maxStack := 9, maxLocals := 19, code := prog_4_method_16_code, exceptionTable := #[], attributes := #[] }
def k2m8 : Method := { name := "step", desc := "(IIZ)V", sig := { parameters := [.int, .int, .boolean], returnType := none }, accessFlags := 2, code := some k2c8 }
def k2c9 : Code := { maxStack := 8, maxLocals := 8, code := prog_4_method_17_code, exceptionTable := #[], attributes := #[] }
def k2m9 : Method := { name := "moveSlacks", desc := "(ID)V", sig := { parameters := [.int, .double], returnType := none }, accessFlags := 2, code := some k2c9 }
def k2c10 : Code := { maxStack := 6, maxLocals := 8, code := prog_4_method_18_code, exceptionTable := #[], attributes := #[] }
def k2m10 : Method := { name := "leaving", desc := "()I", sig := { parameters := [], returnType := some .int }, accessFlags := 2, code := some k2c10 }
def k2c11 : Code := { maxStack := 3, maxLocals := 2, code := prog_4_method_19_code, exceptionTable := #[], attributes := #[] }
def k2m11 : Method := { name := "leavingValue", desc := "(I)D", sig := { parameters := [.int], returnType := some .double }, accessFlags := 2, code := some k2c11 }
def k2c12 : Code := { maxStack := 2, maxLocals := 2, code := prog_4_method_20_code, exceptionTable := #[], attributes := #[] }
def k2m12 : Method := { name := "leavingLower", desc := "(I)D", sig := { parameters := [.int], returnType := some .double }, accessFlags := 2, code := some k2c12 }
def k2c13 : Code := { maxStack := 8, maxLocals := 10, code := prog_4_method_21_code, exceptionTable := #[], attributes := #[] }
def k2m13 : Method := { name := "computePivotRow", desc := "(I)V", sig := { parameters := [.int], returnType := none }, accessFlags := 2, code := some k2c13 }
def k2c14 : Code := { maxStack := 6, maxLocals := 12, code := prog_4_method_22_code, exceptionTable := #[], attributes := #[] }
def k2m14 : Method := { name := "entering", desc := "(Z)I", sig := { parameters := [.boolean], returnType := some .int }, accessFlags := 2, code := some k2c14 }
def k2c15 : Code := { maxStack := 4, maxLocals := 6, code := prog_4_method_23_code, exceptionTable := #[], attributes := #[] }
def k2m15 : Method := { name := "movable", desc := "(ID)Z", sig := { parameters := [.int, .double], returnType := some .boolean }, accessFlags := 2, code := some k2c15 }
def k2c16 : Code := { maxStack := 4, maxLocals := 5, code := prog_4_method_24_code, exceptionTable := #[], attributes := #[] }
def k2m16 : Method := { name := "onTight", desc := "(I)[D", sig := { parameters := [.int], returnType := some (.array .double) }, accessFlags := 2, code := some k2c16 }
def k2c17 : Code := { maxStack := 4, maxLocals := 5, code := prog_4_method_25_code, exceptionTable := #[], attributes := #[] }
def k2m17 : Method := { name := "onBasic", desc := "(I)[D", sig := { parameters := [.int], returnType := some (.array .double) }, accessFlags := 2, code := some k2c17 }
def k2c18 : Code := { maxStack := 8, maxLocals := 10, code := prog_4_method_26_code, exceptionTable := #[], attributes := #[] }
def k2m18 : Method := { name := "replaceColumn", desc := "(II[D)V", sig := { parameters := [.int, .int, (.array .double)], returnType := none }, accessFlags := 2, code := some k2c18 }
def k2c19 : Code := { maxStack := 8, maxLocals := 15, code := prog_4_method_27_code, exceptionTable := #[], attributes := #[] }
def k2m19 : Method := { name := "grow", desc := "(II[DD)V", sig := { parameters := [.int, .int, (.array .double), .double], returnType := none }, accessFlags := 2, code := some k2c19 }
def k2c20 : Code := { maxStack := 7, maxLocals := 10, code := prog_4_method_30_code, exceptionTable := #[], attributes := #[] }
def k2m20 : Method := { name := "times", desc := "([D)[D", sig := { parameters := [(.array .double)], returnType := some (.array .double) }, accessFlags := 2, code := some k2c20 }
def k2c21 : Code := { maxStack := 8, maxLocals := 6, code := prog_4_method_31_code, exceptionTable := #[], attributes := #[] }
def k2m21 : Method := { name := "timesLeft", desc := "([D)[D", sig := { parameters := [(.array .double)], returnType := some (.array .double) }, accessFlags := 2, code := some k2c21 }
def k2c22 : Code := { maxStack := 5, maxLocals := 5, code := prog_4_method_32_code, exceptionTable := #[], attributes := #[] }
def k2m22 : Method := { name := "ensureKernel", desc := "(I)V", sig := { parameters := [.int], returnType := none }, accessFlags := 2, code := some k2c22 }
def k2c23 : Code := { maxStack := 8, maxLocals := 8, code := prog_4_method_35_code, exceptionTable := #[], attributes := #[] }
def k2m23 : Method := { name := "refresh", desc := "()V", sig := { parameters := [], returnType := none }, accessFlags := 2, code := some k2c23 }
def k2c24 : Code := { maxStack := 7, maxLocals := 5, code := prog_4_method_36_code, exceptionTable := #[], attributes := #[] }
def k2m24 : Method := { name := "dot", desc := "(I)D", sig := { parameters := [.int], returnType := some .double }, accessFlags := 2, code := some k2c24 }
/-- com/example/hertzbid/hertzbid/mechanisms/DualSimplex -/
def k2 : Class := { plain "com/example/hertzbid/hertzbid/mechanisms/DualSimplex" (some 0) with
  accessFlags := 32
  interfaces := #[]
  cf := some (fileOf pool2 10 #[.nestMembers #[135, 158]] #[{ accessFlags := 0, nameIndex := 5, descriptorIndex := 279, attributes := #[] }, { accessFlags := 0, nameIndex := 283, descriptorIndex := 284, attributes := #[] }, { accessFlags := 0, nameIndex := 286, descriptorIndex := 287, attributes := #[] }, { accessFlags := 0, nameIndex := 59, descriptorIndex := 108, attributes := #[] }, { accessFlags := 0, nameIndex := 62, descriptorIndex := 108, attributes := #[] }, { accessFlags := 0, nameIndex := 65, descriptorIndex := 108, attributes := #[] }, { accessFlags := 0, nameIndex := 191, descriptorIndex := 192, attributes := #[] }, { accessFlags := 0, nameIndex := 293, descriptorIndex := 294, attributes := #[] }, { accessFlags := 2, nameIndex := 181, descriptorIndex := 182, attributes := #[] }, { accessFlags := 2, nameIndex := 220, descriptorIndex := 221, attributes := #[] }, { accessFlags := 2, nameIndex := 153, descriptorIndex := 150, attributes := #[] }, { accessFlags := 2, nameIndex := 165, descriptorIndex := 108, attributes := #[] }, { accessFlags := 2, nameIndex := 168, descriptorIndex := 108, attributes := #[] }, { accessFlags := 2, nameIndex := 121, descriptorIndex := 122, attributes := #[] }, { accessFlags := 2, nameIndex := 175, descriptorIndex := 172, attributes := #[] }, { accessFlags := 2, nameIndex := 204, descriptorIndex := 205, attributes := #[] }, { accessFlags := 2, nameIndex := 212, descriptorIndex := 213, attributes := #[] }, { accessFlags := 2, nameIndex := 251, descriptorIndex := 213, attributes := #[] }, { accessFlags := 2, nameIndex := 224, descriptorIndex := 225, attributes := #[] }, { accessFlags := 2, nameIndex := 228, descriptorIndex := 229, attributes := #[] }, { accessFlags := 2, nameIndex := 216, descriptorIndex := 217, attributes := #[] }, { accessFlags := 2, nameIndex := 254, descriptorIndex := 217, attributes := #[] }, { accessFlags := 2, nameIndex := 248, descriptorIndex := 122, attributes := #[] }, { accessFlags := 2, nameIndex := 142, descriptorIndex := 6, attributes := #[] }, { accessFlags := 2, nameIndex := 107, descriptorIndex := 108, attributes := #[] }] 32 2 #[] #[{ accessFlags := 26, nameIndex := 269, descriptorIndex := 270, attributes := #[] }, { accessFlags := 26, nameIndex := 272, descriptorIndex := 270, attributes := #[] }, { accessFlags := 26, nameIndex := 273, descriptorIndex := 270, attributes := #[] }, { accessFlags := 26, nameIndex := 274, descriptorIndex := 270, attributes := #[] }, { accessFlags := 26, nameIndex := 275, descriptorIndex := 49, attributes := #[] }, { accessFlags := 26, nameIndex := 277, descriptorIndex := 49, attributes := #[] }, { accessFlags := 18, nameIndex := 48, descriptorIndex := 49, attributes := #[] }, { accessFlags := 18, nameIndex := 56, descriptorIndex := 16, attributes := #[] }, { accessFlags := 18, nameIndex := 59, descriptorIndex := 16, attributes := #[] }, { accessFlags := 18, nameIndex := 62, descriptorIndex := 16, attributes := #[] }, { accessFlags := 18, nameIndex := 65, descriptorIndex := 16, attributes := #[] }, { accessFlags := 18, nameIndex := 68, descriptorIndex := 8, attributes := #[] }, { accessFlags := 2, nameIndex := 78, descriptorIndex := 14, attributes := #[] }, { accessFlags := 2, nameIndex := 81, descriptorIndex := 20, attributes := #[] }, { accessFlags := 2, nameIndex := 84, descriptorIndex := 8, attributes := #[] }, { accessFlags := 2, nameIndex := 93, descriptorIndex := 49, attributes := #[] }, { accessFlags := 2, nameIndex := 13, descriptorIndex := 14, attributes := #[] }, { accessFlags := 2, nameIndex := 19, descriptorIndex := 20, attributes := #[] }, { accessFlags := 2, nameIndex := 23, descriptorIndex := 16, attributes := #[] }, { accessFlags := 2, nameIndex := 26, descriptorIndex := 16, attributes := #[] }, { accessFlags := 2, nameIndex := 29, descriptorIndex := 8, attributes := #[] }, { accessFlags := 2, nameIndex := 129, descriptorIndex := 49, attributes := #[] }, { accessFlags := 2, nameIndex := 32, descriptorIndex := 8, attributes := #[] }, { accessFlags := 2, nameIndex := 35, descriptorIndex := 8, attributes := #[] }, { accessFlags := 2, nameIndex := 39, descriptorIndex := 20, attributes := #[] }, { accessFlags := 2, nameIndex := 185, descriptorIndex := 49, attributes := #[] }, { accessFlags := 2, nameIndex := 42, descriptorIndex := 16, attributes := #[] }, { accessFlags := 18, nameIndex := 87, descriptorIndex := 16, attributes := #[] }, { accessFlags := 18, nameIndex := 90, descriptorIndex := 16, attributes := #[] }, { accessFlags := 2, nameIndex := 45, descriptorIndex := 16, attributes := #[] }])
  fields := #[{ name := "FEASIBLE", type := .double, accessFlags := 26, slot := 0, constantValue := 0 }, { name := "DUAL_FEASIBLE", type := .double, accessFlags := 26, slot := 1, constantValue := 0 }, { name := "PIVOT", type := .double, accessFlags := 26, slot := 2, constantValue := 0 }, { name := "BLAND_PIVOT", type := .double, accessFlags := 26, slot := 3, constantValue := 0 }, { name := "STALL", type := .int, accessFlags := 26, slot := 4, constantValue := 0 }, { name := "REFRESH", type := .int, accessFlags := 26, slot := 5, constantValue := 0 }, { name := "columns", type := .int, accessFlags := 18, slot := 0, constantValue := 0 }, { name := "cost", type := (.array .double), accessFlags := 18, slot := 1, constantValue := 0 }, { name := "lower", type := (.array .double), accessFlags := 18, slot := 2, constantValue := 0 }, { name := "upper", type := (.array .double), accessFlags := 18, slot := 3, constantValue := 0 }, { name := "value", type := (.array .double), accessFlags := 18, slot := 4, constantValue := 0 }, { name := "columnPlace", type := (.array .int), accessFlags := 18, slot := 5, constantValue := 0 }, { name := "columnRows", type := (.array (.array .int)), accessFlags := 2, slot := 6, constantValue := 0 }, { name := "columnCoefficients", type := (.array (.array .double)), accessFlags := 2, slot := 7, constantValue := 0 }, { name := "columnLengths", type := (.array .int), accessFlags := 2, slot := 8, constantValue := 0 }, { name := "rows", type := .int, accessFlags := 2, slot := 9, constantValue := 0 }, { name := "rowColumns", type := (.array (.array .int)), accessFlags := 2, slot := 10, constantValue := 0 }, { name := "rowCoefficients", type := (.array (.array .double)), accessFlags := 2, slot := 11, constantValue := 0 }, { name := "bound", type := (.array .double), accessFlags := 2, slot := 12, constantValue := 0 }, { name := "slack", type := (.array .double), accessFlags := 2, slot := 13, constantValue := 0 }, { name := "rowPlace", type := (.array .int), accessFlags := 2, slot := 14, constantValue := 0 }, { name := "size", type := .int, accessFlags := 2, slot := 15, constantValue := 0 }, { name := "tight", type := (.array .int), accessFlags := 2, slot := 16, constantValue := 0 }, { name := "basic", type := (.array .int), accessFlags := 2, slot := 17, constantValue := 0 }, { name := "inverse", type := (.array (.array .double)), accessFlags := 2, slot := 18, constantValue := 0 }, { name := "updates", type := .int, accessFlags := 2, slot := 19, constantValue := 0 }, { name := "price", type := (.array .double), accessFlags := 2, slot := 20, constantValue := 0 }, { name := "reduced", type := (.array .double), accessFlags := 18, slot := 21, constantValue := 0 }, { name := "pivotRow", type := (.array .double), accessFlags := 18, slot := 22, constantValue := 0 }, { name := "pivotSlack", type := (.array .double), accessFlags := 2, slot := 23, constantValue := 0 }]
  methods := #[k2m0, k2m1, k2m2, k2m3, k2m4, k2m5, k2m6, k2m7, k2m8, k2m9, k2m10, k2m11, k2m12, k2m13, k2m14, k2m15, k2m16, k2m17, k2m18, k2m19, k2m20, k2m21, k2m22, k2m23, k2m24]
  instanceTypes := #[.int, (.array .double), (.array .double), (.array .double), (.array .double), (.array .int), (.array (.array .int)), (.array (.array .double)), (.array .int), .int, (.array (.array .int)), (.array (.array .double)), (.array .double), (.array .double), (.array .int), .int, (.array .int), (.array .int), (.array (.array .double)), .int, (.array .double), (.array .double), (.array .double), (.array .double)]
  staticTypes := #[.double, .double, .double, .double, .int, .int]
  resolved := Array.replicate 301 none
  statics := none }

def pool3 : Array CpInfo := pool [(1, .class_ 2), (0, u "java/lang/Cloneable"), (0, .class_ 4), (0, u "java/lang/Object")] 2

/-- java/lang/Cloneable -/
def k3 : Class := { plain "java/lang/Cloneable" (some 0) with
  accessFlags := 1537
  interfaces := #[]
  cf := some (fileOf pool3 1 #[] #[] 1537 3 #[] #[])
  fields := #[]
  methods := #[]
  instanceTypes := #[]
  staticTypes := #[]
  resolved := Array.replicate 7 none
  statics := none }

def pool4 : Array CpInfo := pool [(2, .class_ 4), (1, u "java/lang/Object"), (0, u "<init>"), (0, u "()V"), (7, .class_ 16), (1, u "java/util/Arrays"), (57, .class_ 76), (1, u "java/util/Arrays$NaturalOrder"), (36, .class_ 115), (1, u "java/util/Arrays$LegacyMergeSort"), (1, u "Z"), (257, .class_ 376), (0, u "java/util/Arrays$ArrayList"), (68, u "$assertionsDisabled"), (269, u "MIN_ARRAY_SORT_GRAN"), (0, u "I"), (2, u "INSERTIONSORT_THRESHOLD"), (120, u "fill"), (4, u "([II)V"), (8, u "([DD)V"), (120, .class_ 976), (0, u "java/util/Arrays$ArrayItr")] 52

def k4m0 : Method := { name := "<init>", desc := "()V", sig := { parameters := [], returnType := none }, accessFlags := 2, code := none }
def k4c1 : Code := { maxStack := 3, maxLocals := 4, code := jdk_65_method_103_code, exceptionTable := #[], attributes := #[] }
def k4m1 : Method := { name := "fill", desc := "([II)V", sig := { parameters := [(.array .int), .int], returnType := none }, accessFlags := 9, code := some k4c1 }
def k4c2 : Code := { maxStack := 4, maxLocals := 5, code := jdk_65_method_113_code, exceptionTable := #[], attributes := #[] }
def k4m2 : Method := { name := "fill", desc := "([DD)V", sig := { parameters := [(.array .double), .double], returnType := none }, accessFlags := 9, code := some k4c2 }
/-- java/util/Arrays -/
def k4 : Class := { plain "java/util/Arrays" (some 0) with
  accessFlags := 49
  interfaces := #[]
  cf := some (fileOf pool4 14 #[.nestMembers #[975, 375, 113, 74]] #[{ accessFlags := 2, nameIndex := 5, descriptorIndex := 6, attributes := #[] }, { accessFlags := 9, nameIndex := 840, descriptorIndex := 845, attributes := #[] }, { accessFlags := 9, nameIndex := 840, descriptorIndex := 854, attributes := #[] }] 49 2 #[] #[{ accessFlags := 26, nameIndex := 715, descriptorIndex := 716, attributes := #[] }, { accessFlags := 26, nameIndex := 719, descriptorIndex := 716, attributes := #[] }, { accessFlags := 4120, nameIndex := 445, descriptorIndex := 117, attributes := #[] }])
  fields := #[{ name := "MIN_ARRAY_SORT_GRAN", type := .int, accessFlags := 26, slot := 0, constantValue := 0 }, { name := "INSERTIONSORT_THRESHOLD", type := .int, accessFlags := 26, slot := 1, constantValue := 0 }, { name := "$assertionsDisabled", type := .boolean, accessFlags := 4120, slot := 2, constantValue := 0 }]
  methods := #[k4m0, k4m1, k4m2]
  instanceTypes := #[]
  staticTypes := #[.int, .int, .boolean]
  resolved := Array.replicate 1029 none
  statics := none }

def pool5 : Array CpInfo := pool [(2, .class_ 4), (1, u "java/lang/Object"), (0, u "<init>"), (0, u "()V"), (1, .class_ 10), (1, u "java/lang/System"), (0, u "allowSecurityManager"), (0, u "I"), (16, u "cons"), (0, u "Ljava/io/Console;"), (77, .class_ 110), (1, u "java/lang/System$CallersHolder"), (43, u "initialErrStream"), (0, u "Ljava/io/PrintStream;"), (19, u "security"), (0, u "Ljava/lang/SecurityManager;"), (31, .class_ 209), (0, u "java/lang/System$1"), (7, u "props"), (0, u "Ljava/util/Properties;"), (2, u "lineSeparator"), (0, u "Ljava/lang/String;"), (96, .class_ 321), (1, u "java/lang/System$LoggerFinder"), (5, .class_ 328), (0, u "java/lang/System$Logger"), (67, u "err"), (2, u "out"), (91, u "notSupportedJnuEncoding"), (15, u "in"), (17, u "initialIn"), (0, u "Ljava/io/InputStream;"), (35, u "bootLayer"), (0, u "Ljava/lang/ModuleLayer;"), (99, .class_ 664), (0, u "java/lang/System$2"), (9, u "NEVER"), (2, u "MAYBE"), (49, u "arraycopy"), (0, u "(Ljava/lang/Object;ILjava/lang/Object;II)V"), (72, .class_ 802), (0, u "java/lang/System$Logger$Level")] 31

def k5m0 : Method := { name := "<init>", desc := "()V", sig := { parameters := [], returnType := none }, accessFlags := 2, code := none }
def k5m1 : Method := { name := "arraycopy", desc := "(Ljava/lang/Object;ILjava/lang/Object;II)V", sig := { parameters := [(.object "java/lang/Object"), .int, (.object "java/lang/Object"), .int, .int], returnType := none }, accessFlags := 265, code := none }
/-- java/lang/System -/
def k5 : Class := { plain "java/lang/System" (some 0) with
  accessFlags := 49
  interfaces := #[]
  cf := some (fileOf pool5 8 #[.nestMembers #[319, 327, 801, 108, 663, 208]] #[{ accessFlags := 2, nameIndex := 5, descriptorIndex := 6, attributes := #[] }, { accessFlags := 265, nameIndex := 727, descriptorIndex := 728, attributes := #[] }] 49 2 #[] #[{ accessFlags := 25, nameIndex := 507, descriptorIndex := 526, attributes := #[] }, { accessFlags := 25, nameIndex := 399, descriptorIndex := 155, attributes := #[] }, { accessFlags := 25, nameIndex := 396, descriptorIndex := 155, attributes := #[] }, { accessFlags := 10, nameIndex := 525, descriptorIndex := 526, attributes := #[] }, { accessFlags := 26, nameIndex := 674, descriptorIndex := 12, attributes := #[] }, { accessFlags := 26, nameIndex := 677, descriptorIndex := 12, attributes := #[] }, { accessFlags := 10, nameIndex := 11, descriptorIndex := 12, attributes := #[] }, { accessFlags := 74, nameIndex := 175, descriptorIndex := 176, attributes := #[] }, { accessFlags := 10, nameIndex := 491, descriptorIndex := 222, attributes := #[] }, { accessFlags := 74, nameIndex := 29, descriptorIndex := 30, attributes := #[] }, { accessFlags := 74, nameIndex := 154, descriptorIndex := 155, attributes := #[] }, { accessFlags := 10, nameIndex := 217, descriptorIndex := 218, attributes := #[] }, { accessFlags := 10, nameIndex := 221, descriptorIndex := 222, attributes := #[] }, { accessFlags := 8, nameIndex := 562, descriptorIndex := 563, attributes := #[] }])
  fields := #[{ name := "in", type := (.object "java/io/InputStream"), accessFlags := 25, slot := 0, constantValue := 0 }, { name := "out", type := (.object "java/io/PrintStream"), accessFlags := 25, slot := 1, constantValue := 0 }, { name := "err", type := (.object "java/io/PrintStream"), accessFlags := 25, slot := 2, constantValue := 0 }, { name := "initialIn", type := (.object "java/io/InputStream"), accessFlags := 10, slot := 3, constantValue := 0 }, { name := "NEVER", type := .int, accessFlags := 26, slot := 4, constantValue := 0 }, { name := "MAYBE", type := .int, accessFlags := 26, slot := 5, constantValue := 0 }, { name := "allowSecurityManager", type := .int, accessFlags := 10, slot := 6, constantValue := 0 }, { name := "security", type := (.object "java/lang/SecurityManager"), accessFlags := 74, slot := 7, constantValue := 0 }, { name := "notSupportedJnuEncoding", type := (.object "java/lang/String"), accessFlags := 10, slot := 8, constantValue := 0 }, { name := "cons", type := (.object "java/io/Console"), accessFlags := 74, slot := 9, constantValue := 0 }, { name := "initialErrStream", type := (.object "java/io/PrintStream"), accessFlags := 74, slot := 10, constantValue := 0 }, { name := "props", type := (.object "java/util/Properties"), accessFlags := 10, slot := 11, constantValue := 0 }, { name := "lineSeparator", type := (.object "java/lang/String"), accessFlags := 10, slot := 12, constantValue := 0 }, { name := "bootLayer", type := (.object "java/lang/ModuleLayer"), accessFlags := 8, slot := 13, constantValue := 0 }]
  methods := #[k5m0, k5m1]
  instanceTypes := #[]
  staticTypes := #[(.object "java/io/InputStream"), (.object "java/io/PrintStream"), (.object "java/io/PrintStream"), (.object "java/io/InputStream"), .int, .int, .int, (.object "java/lang/SecurityManager"), (.object "java/lang/String"), (.object "java/io/Console"), (.object "java/io/PrintStream"), (.object "java/util/Properties"), (.object "java/lang/String"), (.object "java/lang/ModuleLayer")]
  resolved := Array.replicate 834 none
  statics := none }

def pool6 : Array CpInfo := pool [(1, .class_ 2), (0, u "java/lang/Math"), (1, .class_ 6), (1, u "java/lang/Object"), (0, u "<init>"), (0, u "()V"), (5, u "(D)D"), (37, u "(DD)D"), (45, .class_ 100), (1, u "java/lang/Math$RandomNumberGeneratorHolder"), (23, u "abs"), (47, u "negativeZeroFloatBits"), (0, u "J"), (2, u "negativeZeroDoubleBits"), (21, u "max"), (2, u "min"), (43, u "$assertionsDisabled"), (0, u "Z"), (91, u "twoToTheDoubleScaleDown"), (0, u "D"), (4, u "twoToTheDoubleScaleUp"), (9, u "E"), (3, u "PI"), (2, u "TAU"), (2, u "DEGREES_TO_RADIANS"), (0, u "RADIANS_TO_DEGREES")] 94

def k6m0 : Method := { name := "<init>", desc := "()V", sig := { parameters := [], returnType := none }, accessFlags := 2, code := none }
def k6c1 : Code := { maxStack := 4, maxLocals := 2, code := jdk_29_method_64_code, exceptionTable := #[], attributes := #[] }
def k6m1 : Method := { name := "abs", desc := "(D)D", sig := { parameters := [.double], returnType := some .double }, accessFlags := 9, code := some k6c1 }
def k6c2 : Code := { maxStack := 4, maxLocals := 4, code := jdk_29_method_68_code, exceptionTable := #[], attributes := #[] }
def k6m2 : Method := { name := "max", desc := "(DD)D", sig := { parameters := [.double, .double], returnType := some .double }, accessFlags := 9, code := some k6c2 }
def k6c3 : Code := { maxStack := 4, maxLocals := 4, code := jdk_29_method_72_code, exceptionTable := #[], attributes := #[] }
def k6m3 : Method := { name := "min", desc := "(DD)D", sig := { parameters := [.double, .double], returnType := some .double }, accessFlags := 9, code := some k6c3 }
/-- java/lang/Math -/
def k6 : Class := { plain "java/lang/Math" (some 0) with
  accessFlags := 49
  interfaces := #[]
  cf := some (fileOf pool6 1 #[.nestMembers #[98]] #[{ accessFlags := 2, nameIndex := 7, descriptorIndex := 8, attributes := #[] }, { accessFlags := 9, nameIndex := 124, descriptorIndex := 14, attributes := #[] }, { accessFlags := 9, nameIndex := 198, descriptorIndex := 52, attributes := #[] }, { accessFlags := 9, nameIndex := 201, descriptorIndex := 52, attributes := #[] }] 49 4 #[] #[{ accessFlags := 25, nameIndex := 354, descriptorIndex := 339, attributes := #[] }, { accessFlags := 25, nameIndex := 358, descriptorIndex := 339, attributes := #[] }, { accessFlags := 25, nameIndex := 361, descriptorIndex := 339, attributes := #[] }, { accessFlags := 26, nameIndex := 364, descriptorIndex := 339, attributes := #[] }, { accessFlags := 26, nameIndex := 365, descriptorIndex := 339, attributes := #[] }, { accessFlags := 26, nameIndex := 172, descriptorIndex := 173, attributes := #[] }, { accessFlags := 26, nameIndex := 176, descriptorIndex := 173, attributes := #[] }, { accessFlags := 8, nameIndex := 344, descriptorIndex := 339, attributes := #[] }, { accessFlags := 8, nameIndex := 338, descriptorIndex := 339, attributes := #[] }, { accessFlags := 4120, nameIndex := 245, descriptorIndex := 246, attributes := #[] }])
  fields := #[{ name := "E", type := .double, accessFlags := 25, slot := 0, constantValue := 0 }, { name := "PI", type := .double, accessFlags := 25, slot := 1, constantValue := 0 }, { name := "TAU", type := .double, accessFlags := 25, slot := 2, constantValue := 0 }, { name := "DEGREES_TO_RADIANS", type := .double, accessFlags := 26, slot := 3, constantValue := 0 }, { name := "RADIANS_TO_DEGREES", type := .double, accessFlags := 26, slot := 4, constantValue := 0 }, { name := "negativeZeroFloatBits", type := .long, accessFlags := 26, slot := 5, constantValue := 0 }, { name := "negativeZeroDoubleBits", type := .long, accessFlags := 26, slot := 6, constantValue := 0 }, { name := "twoToTheDoubleScaleUp", type := .double, accessFlags := 8, slot := 7, constantValue := 0 }, { name := "twoToTheDoubleScaleDown", type := .double, accessFlags := 8, slot := 8, constantValue := 0 }, { name := "$assertionsDisabled", type := .boolean, accessFlags := 4120, slot := 9, constantValue := 0 }]
  methods := #[k6m0, k6m1, k6m2, k6m3]
  instanceTypes := #[]
  staticTypes := #[.double, .double, .double, .double, .double, .long, .long, .double, .double, .boolean]
  resolved := Array.replicate 460 none
  statics := none }

def pool7 : Array CpInfo := pool [(1, .class_ 2), (0, u "java/lang/constant/Constable"), (0, .class_ 4), (0, u "java/lang/Object")] 6

/-- java/lang/constant/Constable -/
def k7 : Class := { plain "java/lang/constant/Constable" (some 0) with
  accessFlags := 1537
  interfaces := #[]
  cf := some (fileOf pool7 1 #[] #[] 1537 3 #[] #[])
  fields := #[]
  methods := #[]
  instanceTypes := #[]
  staticTypes := #[]
  resolved := Array.replicate 11 none
  statics := none }

def pool8 : Array CpInfo := pool [(1, .class_ 2), (0, u "java/lang/Comparable"), (0, .class_ 4), (0, u "java/lang/Object")] 7

/-- java/lang/Comparable -/
def k8 : Class := { plain "java/lang/Comparable" (some 0) with
  accessFlags := 1537
  interfaces := #[]
  cf := some (fileOf pool8 1 #[] #[] 1537 3 #[] #[])
  fields := #[]
  methods := #[]
  instanceTypes := #[]
  staticTypes := #[]
  resolved := Array.replicate 12 none
  statics := none }

def pool9 : Array CpInfo := pool [(1, .class_ 2), (0, u "java/io/Serializable"), (0, .class_ 4), (0, u "java/lang/Object")] 2

/-- java/io/Serializable -/
def k9 : Class := { plain "java/io/Serializable" (some 0) with
  accessFlags := 1537
  interfaces := #[]
  cf := some (fileOf pool9 1 #[] #[] 1537 3 #[] #[])
  fields := #[]
  methods := #[]
  instanceTypes := #[]
  staticTypes := #[]
  resolved := Array.replicate 7 none
  statics := none }

def pool10 : Array CpInfo := pool [(2, .class_ 4), (1, u "java/lang/Enum"), (0, u "name"), (0, u "Ljava/lang/String;"), (2, u "ordinal"), (0, u "I"), (1, .class_ 14), (1, u "java/lang/Object"), (4, u "hash"), (86, .class_ 108), (1, u "java/lang/Enum$EnumDesc"), (2, .class_ 112), (0, u "java/lang/constant/Constable"), (0, .class_ 114), (0, u "java/lang/Comparable"), (0, .class_ 116), (0, u "java/io/Serializable")] 87

/-- java/lang/Enum -/
def k10 : Class := { plain "java/lang/Enum" (some 0) with
  accessFlags := 1057
  interfaces := #[7, 8, 9]
  cf := some (fileOf pool10 2 #[.nestMembers #[106]] #[] 1057 12 #[111, 113, 115] #[{ accessFlags := 18, nameIndex := 5, descriptorIndex := 6, attributes := #[] }, { accessFlags := 18, nameIndex := 9, descriptorIndex := 10, attributes := #[] }, { accessFlags := 2, nameIndex := 19, descriptorIndex := 10, attributes := #[] }])
  fields := #[{ name := "name", type := (.object "java/lang/String"), accessFlags := 18, slot := 0, constantValue := 0 }, { name := "ordinal", type := .int, accessFlags := 18, slot := 1, constantValue := 0 }, { name := "hash", type := .int, accessFlags := 2, slot := 2, constantValue := 0 }]
  methods := #[]
  instanceTypes := #[(.object "java/lang/String"), .int, .int]
  staticTypes := #[]
  resolved := Array.replicate 204 none
  statics := none }

def pool11 : Array CpInfo := pool [(1, .class_ 2), (0, u "com/example/hertzbid/hertzbid/mechanisms/DualSimplex$Status"), (2, u "OPTIMAL"), (0, u "Lcom/example/hertzbid/hertzbid/mechanisms/DualSimplex$Status;"), (2, u "INFEASIBLE"), (2, u "ITERATION_LIMIT"), (2, u "$VALUES"), (0, u "[Lcom/example/hertzbid/hertzbid/mechanisms/DualSimplex$Status;"), (6, .class_ 25), (1, u "java/lang/Enum"), (26, .class_ 53), (0, u "com/example/hertzbid/hertzbid/mechanisms/DualSimplex")] 2

/-- com/example/hertzbid/hertzbid/mechanisms/DualSimplex$Status -/
def k11 : Class := { plain "com/example/hertzbid/hertzbid/mechanisms/DualSimplex$Status" (some 10) with
  accessFlags := 16432
  interfaces := #[]
  cf := some (fileOf pool11 1 #[.nestHost 52] #[] 16432 23 #[] #[{ accessFlags := 16409, nameIndex := 5, descriptorIndex := 6, attributes := #[] }, { accessFlags := 16409, nameIndex := 9, descriptorIndex := 6, attributes := #[] }, { accessFlags := 16409, nameIndex := 12, descriptorIndex := 6, attributes := #[] }, { accessFlags := 4122, nameIndex := 15, descriptorIndex := 16, attributes := #[] }])
  fields := #[{ name := "OPTIMAL", type := (.object "com/example/hertzbid/hertzbid/mechanisms/DualSimplex$Status"), accessFlags := 16409, slot := 0, constantValue := 0 }, { name := "INFEASIBLE", type := (.object "com/example/hertzbid/hertzbid/mechanisms/DualSimplex$Status"), accessFlags := 16409, slot := 1, constantValue := 0 }, { name := "ITERATION_LIMIT", type := (.object "com/example/hertzbid/hertzbid/mechanisms/DualSimplex$Status"), accessFlags := 16409, slot := 2, constantValue := 0 }, { name := "$VALUES", type := (.array (.object "com/example/hertzbid/hertzbid/mechanisms/DualSimplex$Status")), accessFlags := 4122, slot := 3, constantValue := 0 }]
  methods := #[]
  instanceTypes := #[(.object "java/lang/String"), .int, .int]
  staticTypes := #[(.object "com/example/hertzbid/hertzbid/mechanisms/DualSimplex$Status"), (.object "com/example/hertzbid/hertzbid/mechanisms/DualSimplex$Status"), (.object "com/example/hertzbid/hertzbid/mechanisms/DualSimplex$Status"), (.array (.object "com/example/hertzbid/hertzbid/mechanisms/DualSimplex$Status"))]
  resolved := Array.replicate 56 none
  statics := some 0 }

/-- the primitive byte -/
def k12 : Class := { plain "byte" none with kind := .primitive 'B', accessFlags := 0x411 }
/-- [B -/
def k13 : Class := { plain "[B" (some 0) with kind := .array 12 .byte, interfaces := #[3, 9], accessFlags := 1041 }

/-- the primitive double -/
def k14 : Class := { plain "double" none with kind := .primitive 'D', accessFlags := 0x411 }
/-- [D -/
def k15 : Class := { plain "[D" (some 0) with kind := .array 14 .double, interfaces := #[3, 9], accessFlags := 1041 }

/-- the primitive int -/
def k16 : Class := { plain "int" none with kind := .primitive 'I', accessFlags := 0x411 }
/-- [I -/
def k17 : Class := { plain "[I" (some 0) with kind := .array 16 .int, interfaces := #[3, 9], accessFlags := 1041 }

/-- [[D -/
def k18 : Class := { plain "[[D" (some 0) with kind := .array 15 (.array .double), interfaces := #[3, 9], accessFlags := 1041 }

/-- [[I -/
def k19 : Class := { plain "[[I" (some 0) with kind := .array 17 (.array .int), interfaces := #[3, 9], accessFlags := 1041 }

def heap : Heap := #[{ cls := 11, slots := #[.ref 1, .null, .ref 2, .null], vm := .statics 11 },
  { cls := 11, slots := #[.null, .int 0, .int 0], vm := .none },
  { cls := 11, slots := #[.null, .int 1, .int 0], vm := .none }]
def classes : Array Class := #[k0, k1, k2, k3, k4, k5, k6, k7, k8, k9, k10, k11, k12, k13, k14, k15, k16, k17, k18, k19]
def interned : List (Array UInt16 × Addr) := []
def slotsUsed : Nat := 10
def theMethod : MethodId := ⟨1, 1⟩
def args0 : Array Value := #[.int 5, .int 5, .int 5, .int 5, .int 5]
def aboutOver (below : List Frame) : State where
  vm := { classes := classes, interned := interned.toArray }
  heap := heap
  slotsUsed := slotsUsed
  threads := #[{ frames := .invoking theMethod args0 :: below }]
def below0 : List Frame := [.native { method := ⟨0, 0⟩, args := #[] }]
def about1 : State := aboutOver below0
def p0 : Program := .bare "" "" ""
def e0 : Env := launch0.env 0 0 0
theorem w_frames : about1.frames = Frame.invoking theMethod args0 :: below0 := rfl
set_option maxRecDepth 65536 in
theorem w_args : argsFit about1.vm theMethod args0 = true := by decide +kernel
set_option maxRecDepth 65536 in
theorem w_heap : heapFits about1 = true := by decide +kernel
set_option maxRecDepth 65536 in
theorem w_runnable : about1.curStatus? = some .runnable := by decide +kernel
set_option maxRecDepth 65536 in
theorem w_alone : about1.alone = true := by decide +kernel
set_option maxRecDepth 65536 in
theorem w_named : about1.methodNamed? x = some theMethod := by decide +kernel
set_option maxRecDepth 65536 in
theorem w_hears : about1.hears theMethod below0 = true := by decide +kernel
set_option maxRecDepth 65536 in
theorem w_ripe : about1.ripe theMethod args0 below0 = true := by decide +kernel
theorem w_running : about1.status = .running := rfl
set_option maxRecDepth 65536 in
theorem w_room : about1.hasRoom e0.platform room_1 = true :=
  launch0.hasRoom_least _ room_1 (by decide +kernel) (by decide +kernel) (by decide +kernel) (by decide +kernel) (by decide +kernel) (by decide +kernel)
theorem allAtoms_all (ts : List Jvm.Cond) (a : Array Jvm.Value) (st : Jvm.State) : (allAtoms ts).before a st = ts.all (fun c => c.before a st) := by
  induction ts with
  | nil => rfl
  | cons c t ih =>
    show (Jvm.Cond.and c (allAtoms t)).before a st = _
    rw [Jvm.Cond.before_and, ih, List.all_cons]
def words1 : List Jvm.Cond := Jvm.Cond.code x code maxLocals ret :: tables_1
/-- a 'code' word, met by the world's own term for the bytes: nothing is compared byte by byte -/
theorem code_word {y : MethodName} {bytes : ByteArray} {mx : Nat} {rt : Option FieldType} {a : Array Value} {s : State} {m : MethodId} {meth : Method} {c : Code} (h1 : s.methodNamed? y = some m) (h2 : s.vm.method? m = some meth) (h3 : meth.code = some c) (h4 : c.code = bytes)
    (h5 : (c.maxLocals == mx && c.exceptionTable.isEmpty && decide (c.maxStack ≤ mostOperands) && decide (meth.sig.returnType = rt) && !meth.locks && decide (parseMethodDescriptor y.desc = some meth.sig)) = true) : (Jvm.Cond.code y bytes mx rt).before a s = true := by
  simp only [Bool.and_eq_true, beq_iff_eq, Bool.not_eq_true', decide_eq_true_eq] at h5
  obtain ⟨⟨⟨⟨⟨g1, g2⟩, g3⟩, g4⟩, g5⟩, g6⟩ := h5
  simp [Cond.before, Cond.holds, Cond.value, h1, h2, h3, h4, g1, g2, g3, g4, g5, g6]
def isCode : Jvm.Cond → Bool
  | .code _ _ _ _ => true
  | _ => false
theorem all_split {L : List Jvm.Cond} {P : Jvm.Cond → Bool} (h1 : L.all (fun c => isCode c || P c) = true) (h2 : ∀ c ∈ L.filter isCode, P c = true) : L.all P = true := by
  refine List.all_eq_true.mpr fun c hc => ?_
  have h := List.all_eq_true.mp h1 c hc
  rcases Bool.eq_false_or_eq_true (isCode c) with hi | hi
  · exact h2 c (List.mem_filter.mpr ⟨hc, hi⟩)
  · simpa [hi] using h
set_option maxRecDepth 65536 in
theorem w_c0 : (Jvm.Cond.code x code maxLocals ret).before args0 about1 = true := code_word (m := ⟨1, 1⟩) (meth := k1m1) (c := k1c1) (by decide +kernel) rfl rfl rfl (by decide +kernel)
set_option maxRecDepth 65536 in
theorem w_c1 : (Jvm.Cond.code ({ cls := "com/example/hertzbid/hertzbid/mechanisms/DualSimplex", name := "<init>", desc := "([D[D[D)V" } : Jvm.MethodName) prog_4_method_1_code (5 : Nat) (Option.none : Option Jvm.ClassFile.FieldType)).before args0 about1 = true := code_word (m := ⟨2, 0⟩) (meth := k2m0) (c := k2c0) (by decide +kernel) rfl rfl rfl (by decide +kernel)
set_option maxRecDepth 65536 in
theorem w_c2 : (Jvm.Cond.code ({ cls := "java/lang/Object", name := "<init>", desc := "()V" } : Jvm.MethodName) object_method_1_code (1 : Nat) (Option.none : Option Jvm.ClassFile.FieldType)).before args0 about1 = true := code_word (m := ⟨0, 0⟩) (meth := k0m0) (c := k0c0) (by decide +kernel) rfl rfl rfl (by decide +kernel)
set_option maxRecDepth 65536 in
theorem w_c3 : (Jvm.Cond.code ({ cls := "java/util/Arrays", name := "fill", desc := "([II)V" } : Jvm.MethodName) jdk_65_method_103_code (4 : Nat) (Option.none : Option Jvm.ClassFile.FieldType)).before args0 about1 = true := code_word (m := ⟨4, 1⟩) (meth := k4m1) (c := k4c1) (by decide +kernel) rfl rfl rfl (by decide +kernel)
set_option maxRecDepth 65536 in
theorem w_c4 : (Jvm.Cond.code ({ cls := "com/example/hertzbid/hertzbid/mechanisms/DualSimplex", name := "setBounds", desc := "(IDD)V" } : Jvm.MethodName) prog_4_method_5_code (6 : Nat) (Option.none : Option Jvm.ClassFile.FieldType)).before args0 about1 = true := code_word (m := ⟨2, 2⟩) (meth := k2m2) (c := k2c2) (by decide +kernel) rfl rfl rfl (by decide +kernel)
set_option maxRecDepth 65536 in
theorem w_c5 : (Jvm.Cond.code ({ cls := "com/example/hertzbid/hertzbid/mechanisms/DualSimplex", name := "lower", desc := "(I)D" } : Jvm.MethodName) prog_4_method_6_code (2 : Nat) (Option.some Jvm.ClassFile.FieldType.double)).before args0 about1 = true := code_word (m := ⟨2, 3⟩) (meth := k2m3) (c := k2c3) (by decide +kernel) rfl rfl rfl (by decide +kernel)
set_option maxRecDepth 65536 in
theorem w_c6 : (Jvm.Cond.code ({ cls := "com/example/hertzbid/hertzbid/mechanisms/DualSimplex", name := "upper", desc := "(I)D" } : Jvm.MethodName) prog_4_method_7_code (2 : Nat) (Option.some Jvm.ClassFile.FieldType.double)).before args0 about1 = true := code_word (m := ⟨2, 4⟩) (meth := k2m4) (c := k2c4) (by decide +kernel) rfl rfl rfl (by decide +kernel)
set_option maxRecDepth 65536 in
theorem w_c7 : (Jvm.Cond.code ({ cls := "com/example/hertzbid/hertzbid/mechanisms/DualSimplex", name := "value", desc := "(I)D" } : Jvm.MethodName) prog_4_method_8_code (2 : Nat) (Option.some Jvm.ClassFile.FieldType.double)).before args0 about1 = true := code_word (m := ⟨2, 5⟩) (meth := k2m5) (c := k2c5) (by decide +kernel) rfl rfl rfl (by decide +kernel)
set_option maxRecDepth 65536 in
theorem w_c8 : (Jvm.Cond.code ({ cls := "com/example/hertzbid/hertzbid/mechanisms/DualSimplex", name := "addRow", desc := "([I[DD)I" } : Jvm.MethodName) prog_4_method_3_code (8 : Nat) (Option.some Jvm.ClassFile.FieldType.int)).before args0 about1 = true := code_word (m := ⟨2, 1⟩) (meth := k2m1) (c := k2c1) (by decide +kernel) rfl rfl rfl (by decide +kernel)
set_option maxRecDepth 65536 in
theorem w_c9 : (Jvm.Cond.code ({ cls := "com/example/hertzbid/hertzbid/mechanisms/DualSimplex", name := "dot", desc := "(I)D" } : Jvm.MethodName) prog_4_method_36_code (5 : Nat) (Option.some Jvm.ClassFile.FieldType.double)).before args0 about1 = true := code_word (m := ⟨2, 24⟩) (meth := k2m24) (c := k2c24) (by decide +kernel) rfl rfl rfl (by decide +kernel)
set_option maxRecDepth 65536 in
theorem w_c10 : (Jvm.Cond.code ({ cls := "com/example/hertzbid/hertzbid/mechanisms/DualSimplex", name := "solve", desc := "(J)Lcom/example/hertzbid/hertzbid/mechanisms/DualSimplex$Status;" } : Jvm.MethodName) prog_4_method_13_code (14 : Nat) (Option.some (Jvm.ClassFile.FieldType.object "com/example/hertzbid/hertzbid/mechanisms/DualSimplex$Status"))).before args0 about1 = true := code_word (m := ⟨2, 7⟩) (meth := k2m7) (c := k2c7) (by decide +kernel) rfl rfl rfl (by decide +kernel)
set_option maxRecDepth 65536 in
theorem w_c11 : (Jvm.Cond.code ({ cls := "com/example/hertzbid/hertzbid/mechanisms/DualSimplex", name := "refresh", desc := "()V" } : Jvm.MethodName) prog_4_method_35_code (8 : Nat) (Option.none : Option Jvm.ClassFile.FieldType)).before args0 about1 = true := code_word (m := ⟨2, 23⟩) (meth := k2m23) (c := k2c23) (by decide +kernel) rfl rfl rfl (by decide +kernel)
set_option maxRecDepth 65536 in
theorem w_c12 : (Jvm.Cond.code ({ cls := "com/example/hertzbid/hertzbid/mechanisms/DualSimplex", name := "times", desc := "([D)[D" } : Jvm.MethodName) prog_4_method_30_code (10 : Nat) (Option.some (Jvm.ClassFile.FieldType.array Jvm.ClassFile.FieldType.double))).before args0 about1 = true := code_word (m := ⟨2, 20⟩) (meth := k2m20) (c := k2c20) (by decide +kernel) rfl rfl rfl (by decide +kernel)
set_option maxRecDepth 65536 in
theorem w_c13 : (Jvm.Cond.code ({ cls := "com/example/hertzbid/hertzbid/mechanisms/DualSimplex", name := "timesLeft", desc := "([D)[D" } : Jvm.MethodName) prog_4_method_31_code (6 : Nat) (Option.some (Jvm.ClassFile.FieldType.array Jvm.ClassFile.FieldType.double))).before args0 about1 = true := code_word (m := ⟨2, 21⟩) (meth := k2m21) (c := k2c21) (by decide +kernel) rfl rfl rfl (by decide +kernel)
set_option maxRecDepth 65536 in
theorem w_c14 : (Jvm.Cond.code ({ cls := "com/example/hertzbid/hertzbid/mechanisms/DualSimplex", name := "leaving", desc := "()I" } : Jvm.MethodName) prog_4_method_18_code (8 : Nat) (Option.some Jvm.ClassFile.FieldType.int)).before args0 about1 = true := code_word (m := ⟨2, 10⟩) (meth := k2m10) (c := k2c10) (by decide +kernel) rfl rfl rfl (by decide +kernel)
set_option maxRecDepth 65536 in
theorem w_c15 : (Jvm.Cond.code ({ cls := "com/example/hertzbid/hertzbid/mechanisms/DualSimplex", name := "leavingValue", desc := "(I)D" } : Jvm.MethodName) prog_4_method_19_code (2 : Nat) (Option.some Jvm.ClassFile.FieldType.double)).before args0 about1 = true := code_word (m := ⟨2, 11⟩) (meth := k2m11) (c := k2c11) (by decide +kernel) rfl rfl rfl (by decide +kernel)
set_option maxRecDepth 65536 in
theorem w_c16 : (Jvm.Cond.code ({ cls := "com/example/hertzbid/hertzbid/mechanisms/DualSimplex", name := "leavingLower", desc := "(I)D" } : Jvm.MethodName) prog_4_method_20_code (2 : Nat) (Option.some Jvm.ClassFile.FieldType.double)).before args0 about1 = true := code_word (m := ⟨2, 12⟩) (meth := k2m12) (c := k2c12) (by decide +kernel) rfl rfl rfl (by decide +kernel)
set_option maxRecDepth 65536 in
theorem w_c17 : (Jvm.Cond.code ({ cls := "com/example/hertzbid/hertzbid/mechanisms/DualSimplex", name := "computePivotRow", desc := "(I)V" } : Jvm.MethodName) prog_4_method_21_code (10 : Nat) (Option.none : Option Jvm.ClassFile.FieldType)).before args0 about1 = true := code_word (m := ⟨2, 13⟩) (meth := k2m13) (c := k2c13) (by decide +kernel) rfl rfl rfl (by decide +kernel)
set_option maxRecDepth 65536 in
theorem w_c18 : (Jvm.Cond.code ({ cls := "java/util/Arrays", name := "fill", desc := "([DD)V" } : Jvm.MethodName) jdk_65_method_113_code (5 : Nat) (Option.none : Option Jvm.ClassFile.FieldType)).before args0 about1 = true := code_word (m := ⟨4, 2⟩) (meth := k4m2) (c := k4c2) (by decide +kernel) rfl rfl rfl (by decide +kernel)
set_option maxRecDepth 65536 in
theorem w_c19 : (Jvm.Cond.code ({ cls := "com/example/hertzbid/hertzbid/mechanisms/DualSimplex", name := "entering", desc := "(Z)I" } : Jvm.MethodName) prog_4_method_22_code (12 : Nat) (Option.some Jvm.ClassFile.FieldType.int)).before args0 about1 = true := code_word (m := ⟨2, 14⟩) (meth := k2m14) (c := k2c14) (by decide +kernel) rfl rfl rfl (by decide +kernel)
set_option maxRecDepth 65536 in
theorem w_c20 : (Jvm.Cond.code ({ cls := "com/example/hertzbid/hertzbid/mechanisms/DualSimplex", name := "movable", desc := "(ID)Z" } : Jvm.MethodName) prog_4_method_23_code (6 : Nat) (Option.some Jvm.ClassFile.FieldType.boolean)).before args0 about1 = true := code_word (m := ⟨2, 15⟩) (meth := k2m15) (c := k2c15) (by decide +kernel) rfl rfl rfl (by decide +kernel)
set_option maxRecDepth 65536 in
theorem w_c21 : (Jvm.Cond.code ({ cls := "java/lang/Math", name := "abs", desc := "(D)D" } : Jvm.MethodName) jdk_29_method_64_code (2 : Nat) (Option.some Jvm.ClassFile.FieldType.double)).before args0 about1 = true := code_word (m := ⟨6, 1⟩) (meth := k6m1) (c := k6c1) (by decide +kernel) rfl rfl rfl (by decide +kernel)
set_option maxRecDepth 65536 in
theorem w_c22 : (Jvm.Cond.code ({ cls := "java/lang/Math", name := "min", desc := "(DD)D" } : Jvm.MethodName) jdk_29_method_72_code (4 : Nat) (Option.some Jvm.ClassFile.FieldType.double)).before args0 about1 = true := code_word (m := ⟨6, 3⟩) (meth := k6m3) (c := k6c3) (by decide +kernel) rfl rfl rfl (by decide +kernel)
set_option maxRecDepth 65536 in
theorem w_c23 : (Jvm.Cond.code ({ cls := "com/example/hertzbid/hertzbid/mechanisms/DualSimplex", name := "step", desc := "(IIZ)V" } : Jvm.MethodName) prog_4_method_16_code (19 : Nat) (Option.none : Option Jvm.ClassFile.FieldType)).before args0 about1 = true := code_word (m := ⟨2, 8⟩) (meth := k2m8) (c := k2c8) (by decide +kernel) rfl rfl rfl (by decide +kernel)
set_option maxRecDepth 65536 in
theorem w_c24 : (Jvm.Cond.code ({ cls := "com/example/hertzbid/hertzbid/mechanisms/DualSimplex", name := "onTight", desc := "(I)[D" } : Jvm.MethodName) prog_4_method_24_code (5 : Nat) (Option.some (Jvm.ClassFile.FieldType.array Jvm.ClassFile.FieldType.double))).before args0 about1 = true := code_word (m := ⟨2, 16⟩) (meth := k2m16) (c := k2c16) (by decide +kernel) rfl rfl rfl (by decide +kernel)
set_option maxRecDepth 65536 in
theorem w_c25 : (Jvm.Cond.code ({ cls := "com/example/hertzbid/hertzbid/mechanisms/DualSimplex", name := "moveSlacks", desc := "(ID)V" } : Jvm.MethodName) prog_4_method_17_code (8 : Nat) (Option.none : Option Jvm.ClassFile.FieldType)).before args0 about1 = true := code_word (m := ⟨2, 9⟩) (meth := k2m9) (c := k2c9) (by decide +kernel) rfl rfl rfl (by decide +kernel)
set_option maxRecDepth 65536 in
theorem w_c26 : (Jvm.Cond.code ({ cls := "com/example/hertzbid/hertzbid/mechanisms/DualSimplex", name := "grow", desc := "(II[DD)V" } : Jvm.MethodName) prog_4_method_27_code (15 : Nat) (Option.none : Option Jvm.ClassFile.FieldType)).before args0 about1 = true := code_word (m := ⟨2, 19⟩) (meth := k2m19) (c := k2c19) (by decide +kernel) rfl rfl rfl (by decide +kernel)
set_option maxRecDepth 65536 in
theorem w_c27 : (Jvm.Cond.code ({ cls := "com/example/hertzbid/hertzbid/mechanisms/DualSimplex", name := "ensureKernel", desc := "(I)V" } : Jvm.MethodName) prog_4_method_32_code (5 : Nat) (Option.none : Option Jvm.ClassFile.FieldType)).before args0 about1 = true := code_word (m := ⟨2, 22⟩) (meth := k2m22) (c := k2c22) (by decide +kernel) rfl rfl rfl (by decide +kernel)
set_option maxRecDepth 65536 in
theorem w_c28 : (Jvm.Cond.code ({ cls := "com/example/hertzbid/hertzbid/mechanisms/DualSimplex", name := "onBasic", desc := "(I)[D" } : Jvm.MethodName) prog_4_method_25_code (5 : Nat) (Option.some (Jvm.ClassFile.FieldType.array Jvm.ClassFile.FieldType.double))).before args0 about1 = true := code_word (m := ⟨2, 17⟩) (meth := k2m17) (c := k2c17) (by decide +kernel) rfl rfl rfl (by decide +kernel)
set_option maxRecDepth 65536 in
theorem w_c29 : (Jvm.Cond.code ({ cls := "com/example/hertzbid/hertzbid/mechanisms/DualSimplex", name := "objective", desc := "()D" } : Jvm.MethodName) prog_4_method_10_code (4 : Nat) (Option.some Jvm.ClassFile.FieldType.double)).before args0 about1 = true := code_word (m := ⟨2, 6⟩) (meth := k2m6) (c := k2c6) (by decide +kernel) rfl rfl rfl (by decide +kernel)
set_option maxRecDepth 65536 in
theorem w_c30 : (Jvm.Cond.code ({ cls := "java/lang/Math", name := "max", desc := "(DD)D" } : Jvm.MethodName) jdk_29_method_68_code (4 : Nat) (Option.some Jvm.ClassFile.FieldType.double)).before args0 about1 = true := code_word (m := ⟨6, 2⟩) (meth := k6m2) (c := k6c2) (by decide +kernel) rfl rfl rfl (by decide +kernel)
set_option maxRecDepth 65536 in
theorem w_c31 : (Jvm.Cond.code ({ cls := "com/example/hertzbid/hertzbid/mechanisms/DualSimplex", name := "replaceColumn", desc := "(II[D)V" } : Jvm.MethodName) prog_4_method_26_code (10 : Nat) (Option.none : Option Jvm.ClassFile.FieldType)).before args0 about1 = true := code_word (m := ⟨2, 18⟩) (meth := k2m18) (c := k2c18) (by decide +kernel) rfl rfl rfl (by decide +kernel)
def codes1 : List Jvm.Cond := [Jvm.Cond.code x code maxLocals ret, Jvm.Cond.code ({ cls := "com/example/hertzbid/hertzbid/mechanisms/DualSimplex", name := "<init>", desc := "([D[D[D)V" } : Jvm.MethodName) prog_4_method_1_code (5 : Nat) (Option.none : Option Jvm.ClassFile.FieldType), Jvm.Cond.code ({ cls := "java/lang/Object", name := "<init>", desc := "()V" } : Jvm.MethodName) object_method_1_code (1 : Nat) (Option.none : Option Jvm.ClassFile.FieldType), Jvm.Cond.code ({ cls := "java/util/Arrays", name := "fill", desc := "([II)V" } : Jvm.MethodName) jdk_65_method_103_code (4 : Nat) (Option.none : Option Jvm.ClassFile.FieldType), Jvm.Cond.code ({ cls := "com/example/hertzbid/hertzbid/mechanisms/DualSimplex", name := "setBounds", desc := "(IDD)V" } : Jvm.MethodName) prog_4_method_5_code (6 : Nat) (Option.none : Option Jvm.ClassFile.FieldType), Jvm.Cond.code ({ cls := "com/example/hertzbid/hertzbid/mechanisms/DualSimplex", name := "lower", desc := "(I)D" } : Jvm.MethodName) prog_4_method_6_code (2 : Nat) (Option.some Jvm.ClassFile.FieldType.double), Jvm.Cond.code ({ cls := "com/example/hertzbid/hertzbid/mechanisms/DualSimplex", name := "upper", desc := "(I)D" } : Jvm.MethodName) prog_4_method_7_code (2 : Nat) (Option.some Jvm.ClassFile.FieldType.double), Jvm.Cond.code ({ cls := "com/example/hertzbid/hertzbid/mechanisms/DualSimplex", name := "value", desc := "(I)D" } : Jvm.MethodName) prog_4_method_8_code (2 : Nat) (Option.some Jvm.ClassFile.FieldType.double), Jvm.Cond.code ({ cls := "com/example/hertzbid/hertzbid/mechanisms/DualSimplex", name := "addRow", desc := "([I[DD)I" } : Jvm.MethodName) prog_4_method_3_code (8 : Nat) (Option.some Jvm.ClassFile.FieldType.int), Jvm.Cond.code ({ cls := "com/example/hertzbid/hertzbid/mechanisms/DualSimplex", name := "dot", desc := "(I)D" } : Jvm.MethodName) prog_4_method_36_code (5 : Nat) (Option.some Jvm.ClassFile.FieldType.double), Jvm.Cond.code ({ cls := "com/example/hertzbid/hertzbid/mechanisms/DualSimplex", name := "solve", desc := "(J)Lcom/example/hertzbid/hertzbid/mechanisms/DualSimplex$Status;" } : Jvm.MethodName) prog_4_method_13_code (14 : Nat) (Option.some (Jvm.ClassFile.FieldType.object "com/example/hertzbid/hertzbid/mechanisms/DualSimplex$Status")), Jvm.Cond.code ({ cls := "com/example/hertzbid/hertzbid/mechanisms/DualSimplex", name := "refresh", desc := "()V" } : Jvm.MethodName) prog_4_method_35_code (8 : Nat) (Option.none : Option Jvm.ClassFile.FieldType), Jvm.Cond.code ({ cls := "com/example/hertzbid/hertzbid/mechanisms/DualSimplex", name := "times", desc := "([D)[D" } : Jvm.MethodName) prog_4_method_30_code (10 : Nat) (Option.some (Jvm.ClassFile.FieldType.array Jvm.ClassFile.FieldType.double)), Jvm.Cond.code ({ cls := "com/example/hertzbid/hertzbid/mechanisms/DualSimplex", name := "timesLeft", desc := "([D)[D" } : Jvm.MethodName) prog_4_method_31_code (6 : Nat) (Option.some (Jvm.ClassFile.FieldType.array Jvm.ClassFile.FieldType.double)), Jvm.Cond.code ({ cls := "com/example/hertzbid/hertzbid/mechanisms/DualSimplex", name := "leaving", desc := "()I" } : Jvm.MethodName) prog_4_method_18_code (8 : Nat) (Option.some Jvm.ClassFile.FieldType.int), Jvm.Cond.code ({ cls := "com/example/hertzbid/hertzbid/mechanisms/DualSimplex", name := "leavingValue", desc := "(I)D" } : Jvm.MethodName) prog_4_method_19_code (2 : Nat) (Option.some Jvm.ClassFile.FieldType.double), Jvm.Cond.code ({ cls := "com/example/hertzbid/hertzbid/mechanisms/DualSimplex", name := "leavingLower", desc := "(I)D" } : Jvm.MethodName) prog_4_method_20_code (2 : Nat) (Option.some Jvm.ClassFile.FieldType.double), Jvm.Cond.code ({ cls := "com/example/hertzbid/hertzbid/mechanisms/DualSimplex", name := "computePivotRow", desc := "(I)V" } : Jvm.MethodName) prog_4_method_21_code (10 : Nat) (Option.none : Option Jvm.ClassFile.FieldType), Jvm.Cond.code ({ cls := "java/util/Arrays", name := "fill", desc := "([DD)V" } : Jvm.MethodName) jdk_65_method_113_code (5 : Nat) (Option.none : Option Jvm.ClassFile.FieldType), Jvm.Cond.code ({ cls := "com/example/hertzbid/hertzbid/mechanisms/DualSimplex", name := "entering", desc := "(Z)I" } : Jvm.MethodName) prog_4_method_22_code (12 : Nat) (Option.some Jvm.ClassFile.FieldType.int), Jvm.Cond.code ({ cls := "com/example/hertzbid/hertzbid/mechanisms/DualSimplex", name := "movable", desc := "(ID)Z" } : Jvm.MethodName) prog_4_method_23_code (6 : Nat) (Option.some Jvm.ClassFile.FieldType.boolean), Jvm.Cond.code ({ cls := "java/lang/Math", name := "abs", desc := "(D)D" } : Jvm.MethodName) jdk_29_method_64_code (2 : Nat) (Option.some Jvm.ClassFile.FieldType.double), Jvm.Cond.code ({ cls := "java/lang/Math", name := "min", desc := "(DD)D" } : Jvm.MethodName) jdk_29_method_72_code (4 : Nat) (Option.some Jvm.ClassFile.FieldType.double), Jvm.Cond.code ({ cls := "com/example/hertzbid/hertzbid/mechanisms/DualSimplex", name := "step", desc := "(IIZ)V" } : Jvm.MethodName) prog_4_method_16_code (19 : Nat) (Option.none : Option Jvm.ClassFile.FieldType), Jvm.Cond.code ({ cls := "com/example/hertzbid/hertzbid/mechanisms/DualSimplex", name := "onTight", desc := "(I)[D" } : Jvm.MethodName) prog_4_method_24_code (5 : Nat) (Option.some (Jvm.ClassFile.FieldType.array Jvm.ClassFile.FieldType.double)), Jvm.Cond.code ({ cls := "com/example/hertzbid/hertzbid/mechanisms/DualSimplex", name := "moveSlacks", desc := "(ID)V" } : Jvm.MethodName) prog_4_method_17_code (8 : Nat) (Option.none : Option Jvm.ClassFile.FieldType), Jvm.Cond.code ({ cls := "com/example/hertzbid/hertzbid/mechanisms/DualSimplex", name := "grow", desc := "(II[DD)V" } : Jvm.MethodName) prog_4_method_27_code (15 : Nat) (Option.none : Option Jvm.ClassFile.FieldType), Jvm.Cond.code ({ cls := "com/example/hertzbid/hertzbid/mechanisms/DualSimplex", name := "ensureKernel", desc := "(I)V" } : Jvm.MethodName) prog_4_method_32_code (5 : Nat) (Option.none : Option Jvm.ClassFile.FieldType), Jvm.Cond.code ({ cls := "com/example/hertzbid/hertzbid/mechanisms/DualSimplex", name := "onBasic", desc := "(I)[D" } : Jvm.MethodName) prog_4_method_25_code (5 : Nat) (Option.some (Jvm.ClassFile.FieldType.array Jvm.ClassFile.FieldType.double)), Jvm.Cond.code ({ cls := "com/example/hertzbid/hertzbid/mechanisms/DualSimplex", name := "objective", desc := "()D" } : Jvm.MethodName) prog_4_method_10_code (4 : Nat) (Option.some Jvm.ClassFile.FieldType.double), Jvm.Cond.code ({ cls := "java/lang/Math", name := "max", desc := "(DD)D" } : Jvm.MethodName) jdk_29_method_68_code (4 : Nat) (Option.some Jvm.ClassFile.FieldType.double), Jvm.Cond.code ({ cls := "com/example/hertzbid/hertzbid/mechanisms/DualSimplex", name := "replaceColumn", desc := "(II[D)V" } : Jvm.MethodName) prog_4_method_26_code (10 : Nat) (Option.none : Option Jvm.ClassFile.FieldType)]
set_option maxRecDepth 65536 in
theorem codes_eq : words1.filter isCode = codes1 := rfl
theorem w_codes : ∀ c ∈ words1.filter isCode, c.before args0 about1 = true := by
  rw [codes_eq]
  intro c hc
  simp only [codes1, List.mem_cons, List.not_mem_nil, or_false] at hc
  rcases hc with rfl | rfl | rfl | rfl | rfl | rfl | rfl | rfl | rfl | rfl | rfl | rfl | rfl | rfl | rfl | rfl | rfl | rfl | rfl | rfl | rfl | rfl | rfl | rfl | rfl | rfl | rfl | rfl | rfl | rfl | rfl | rfl
  · exact w_c0
  · exact w_c1
  · exact w_c2
  · exact w_c3
  · exact w_c4
  · exact w_c5
  · exact w_c6
  · exact w_c7
  · exact w_c8
  · exact w_c9
  · exact w_c10
  · exact w_c11
  · exact w_c12
  · exact w_c13
  · exact w_c14
  · exact w_c15
  · exact w_c16
  · exact w_c17
  · exact w_c18
  · exact w_c19
  · exact w_c20
  · exact w_c21
  · exact w_c22
  · exact w_c23
  · exact w_c24
  · exact w_c25
  · exact w_c26
  · exact w_c27
  · exact w_c28
  · exact w_c29
  · exact w_c30
  · exact w_c31
set_option maxRecDepth 65536 in
theorem w_t1 : (words1.take 24).all (fun c => isCode c || c.before args0 about1) = true := by decide +kernel
set_option maxRecDepth 65536 in
theorem w_t2 : ((words1.drop 24).take 24).all (fun c => isCode c || c.before args0 about1) = true := by decide +kernel
set_option maxRecDepth 65536 in
theorem w_t3 : (((words1.drop 24).drop 24).take 24).all (fun c => isCode c || c.before args0 about1) = true := by decide +kernel
set_option maxRecDepth 65536 in
theorem w_t4 : ((((words1.drop 24).drop 24).drop 24).take 24).all (fun c => isCode c || c.before args0 about1) = true := by decide +kernel
set_option maxRecDepth 65536 in
theorem w_t5 : (((((words1.drop 24).drop 24).drop 24).drop 24).take 24).all (fun c => isCode c || c.before args0 about1) = true := by decide +kernel
set_option maxRecDepth 65536 in
theorem w_t6 : ((((((words1.drop 24).drop 24).drop 24).drop 24).drop 24).take 24).all (fun c => isCode c || c.before args0 about1) = true := by decide +kernel
set_option maxRecDepth 65536 in
theorem w_t7 : (((((((words1.drop 24).drop 24).drop 24).drop 24).drop 24).drop 24).take 24).all (fun c => isCode c || c.before args0 about1) = true := by decide +kernel
set_option maxRecDepth 65536 in
theorem w_t8 : ((((((((words1.drop 24).drop 24).drop 24).drop 24).drop 24).drop 24).drop 24).take 24).all (fun c => isCode c || c.before args0 about1) = true := by decide +kernel
set_option maxRecDepth 65536 in
theorem w_t9 : (((((((((words1.drop 24).drop 24).drop 24).drop 24).drop 24).drop 24).drop 24).drop 24).take 24).all (fun c => isCode c || c.before args0 about1) = true := by decide +kernel
set_option maxRecDepth 65536 in
theorem w_t10 : (((((((((words1.drop 24).drop 24).drop 24).drop 24).drop 24).drop 24).drop 24).drop 24).drop 24).all (fun c => isCode c || c.before args0 about1) = true := by decide +kernel
theorem w_tables : (allAtoms (Jvm.Cond.code x code maxLocals ret :: tables_1)).before args0 about1 = true := by
  rw [allAtoms_all]
  show words1.all (fun c => c.before args0 about1) = true
  refine all_split ?_ w_codes
  rw [← List.take_append_drop 24 words1, List.all_append, w_t1, ← List.take_append_drop 24 (words1.drop 24), List.all_append, w_t2, ← List.take_append_drop 24 ((words1.drop 24).drop 24), List.all_append, w_t3, ← List.take_append_drop 24 (((words1.drop 24).drop 24).drop 24), List.all_append, w_t4, ← List.take_append_drop 24 ((((words1.drop 24).drop 24).drop 24).drop 24), List.all_append, w_t5, ← List.take_append_drop 24 (((((words1.drop 24).drop 24).drop 24).drop 24).drop 24), List.all_append, w_t6, ← List.take_append_drop 24 ((((((words1.drop 24).drop 24).drop 24).drop 24).drop 24).drop 24), List.all_append, w_t7, ← List.take_append_drop 24 (((((((words1.drop 24).drop 24).drop 24).drop 24).drop 24).drop 24).drop 24), List.all_append, w_t8, ← List.take_append_drop 24 ((((((((words1.drop 24).drop 24).drop 24).drop 24).drop 24).drop 24).drop 24).drop 24), List.all_append, w_t9, w_t10]
  rfl
set_option maxRecDepth 65536 in
theorem w_case : (Jvm.Cond.and given_1 narrow_1).before args0 about1 = true := by decide +kernel
theorem w_applies : (headSpec (Jvm.Cond.code x code maxLocals ret :: tables_1) room_1).applies x e0.platform about1 = true :=
  (Spec.applies_iff w_frames).mpr ⟨w_running, w_runnable, w_alone, w_named, w_hears, w_ripe, w_room, w_tables⟩
theorem atStart : AtStart classFile x code maxLocals ret World_1 tables_1 room_1 Calls_1 rest_1 Pre_1 launch0 p0 e0 about1 theMethod args0 below0 :=
  ⟨lists_1, trivial, launch0.admits_env _ _ _, launch0.least_env, fairChoices_fair.cas, fairChoices_fair.clock, w_frames, w_args, w_heap, w_applies, trivial, trivial, w_case⟩
end start1
theorem witness_1 : WitnessClaimed_1 := ⟨start1.p0, start1.e0, start1.about1, start1.theMethod, start1.args0, start1.below0, start1.atStart⟩
end Jvm.Pilot.@@N@@
