import JvmDerived
import JvmDerived.Pilot.@@N@@Statement
import JvmDerived.Pilot.@@N@@Code
set_option linter.unusedVariables false
set_option linter.unusedSimpArgs false
namespace Jvm.Pilot.@@N@@
open Jvm Jvm.ClassFile Sem Op Lib Jvm.Free Jvm.Stand Jvm.LawKit Jvm.RoadKit Bundle Jvm.Pilot.@@N@@.Jvm.D
section Own
variable {p : Program} {l : Launch} {e : Env} {R : Room} {s : State} {m : MethodId} {args : Array Value} {below : List Frame} {meth : Method} {c : Code} {T : State} {cells slots : Nat} {Z : State} {a0 : Array Value} {h h' h0 : Heap} {ws ws' : List Addr}
  {own nm : String} {bytes : ByteArray} {maxL : Nat} {rt : Option FieldType} {W : State → Outcome → Prop} {pc : Nat} {Ls : Array Slot} {rest : List Value}
/-- the run from A ends as W says -/
def OwnDone (p : Program) (e : Env) (below : List Frame) (W : State → Outcome → Prop) (A : State) : Prop :=
  ∃ s₂ o, Steps p.tables e below A s₂ ∧ s₂.status = .running ∧ Ended s₂ below o ∧ W s₂ o
theorem OwnDone.go {A B : State} (h : ∀ t, Steps p.tables e below A t → Steps p.tables e below B t) (k : OwnDone p e below W A) : OwnDone p e below W B := by
  obtain ⟨s₂, o, h1, h2⟩ := k
  exact ⟨s₂, o, h _ h1, h2⟩
/-- how a body ends: what it returns and leaves (Q), and that it wrote nothing older than its start but the objects ws -/
def OwnEnds (s Z : State) (ws : List Addr) (h0 : Heap) (Q : Option Value → Heap → Prop) (k n : Nat) (s₂ : State) (o : Outcome) : Prop :=
  ∃ v L, o = .returned v ∧ (Q v s₂.heap ∧ Keep h0 s₂.heap ws ∧ ∀ y ∈ L, y.base ∈ ws ∨ h0.size ≤ y.base) ∧ ReturnedEndW s o s₂ L k n
/-- the surroundings of a walk -/
def OwnCx (p : Program) (Z s : State) (m : MethodId) (meth : Method) (c : Code) (own nm : String) (bytes : ByteArray) (maxL : Nat) (rt : Option FieldType) : Prop :=
  p.tables.exec = Jvm.exec ∧ Z.Warmed39 s.vm ∧ s.vm.findClass own = some m.cls ∧ meth.name = nm ∧ c.code = bytes ∧ c.maxLocals = maxL ∧ meth.sig.returnType = rt ∧ meth.locks = false
/-- where the walk stands -/
def OwnPos (p : Program) (l : Launch) (e : Env) (R : Room) (s : State) (m : MethodId) (args : Array Value) (below : List Frame) (meth : Method) (c : Code) (Z : State) (ws : List Addr) (h0 : Heap) (T : State) (h : Heap) (cells slots : Nat) : Prop :=
  ∃ (locs : List Loc) (vm0 : Vm) (k0 : Nat), Stand p l e R (s.setVm vm0) m args below meth c T locs cells slots ∧ s.Since vm0 k0 ∧ k0 ≤ h.size ∧ T.heap = h ∧ s.heap = h0 ∧ (∀ y ∈ locs, y.base ∈ ws ∨ h0.size ≤ y.base) ∧ Ext Z.heap h0 ∧ ∀ a ∈ ws, Z.heap.size ≤ a
theorem OwnPos.here (P : OwnPos p l e R s m args below meth c Z ws h0 T h cells slots) : At T m c below := by
  obtain ⟨_, _, _, X, _⟩ := P; exact X.here
theorem OwnPos.keep (P : OwnPos p l e R s m args below meth c Z ws h0 T h cells slots) : Keep h0 h ws := by
  obtain ⟨locs, vm0, k0, X, hS, hk, rfl, rfl, N, -, -⟩ := P
  have hs := X.same
  have far : ∀ (x : Addr) (c : Cell), s.heap[x]? = some c → x ∉ ws → ∀ i, (⟨x, i⟩ : Loc) ∉ locs := fun x c hx hn i hi => by
    rcases N _ hi with q | q
    · exact hn q
    · exact absurd (Array.getElem?_eq_some_iff.mp hx).1 (Nat.not_lt.mpr q)
  refine ⟨hs.2.1, fun x c hx hn => ?_, fun x c hx => ?_⟩
  · obtain ⟨c', h1, h2, h3, h4⟩ := hs.2.2.2.2.2 x c hx
    have e1 : c'.slots = c.slots := by
      apply Array.ext_getElem?
      intro i
      exact h4 i (far x c hx hn i)
    have e2 : c' = c := by rw [h2, e1]
    exact e2 ▸ h1
  · obtain ⟨c', h1, h2, h3, h4⟩ := hs.2.2.2.2.2 x c hx
    exact ⟨c', h1, by rw [h2], by rw [h2], h3⟩
theorem OwnPos.old (P : OwnPos p l e R s m args below meth c Z ws h0 T h cells slots) : Ext Z.heap h := by
  have K := P.keep
  obtain ⟨locs, vm0, k0, X, hS, hk, eT, e0, N, E0, G0⟩ := P
  refine ⟨Nat.le_trans E0.1 K.1, fun a c ha => K.2.1 a c (E0.2 a c ha) fun q => ?_⟩
  exact absurd (Array.getElem?_eq_some_iff.mp ha).1 (Nat.not_lt.mpr (G0 a q))
theorem OwnPos.ge (P : OwnPos p l e R s m args below meth c Z ws h0 T h cells slots) : Z.heap.size ≤ h.size := P.old.1
/-- a method's contract -/
def OwnMeets (l : Launch) (y : MethodName) (bytes : ByteArray) (maxL : Nat) (rt : Option FieldType) (rm : Room) (Z : State) (ws : List Addr) (as : Array Value) (h0 : Heap) (Q : Option Value → Heap → Prop) : Prop :=
  ∀ wz, MetFree l y (head1 (Cond.code y bytes maxL rt :: wz) rm) (fun a U => a = as ∧ Z.Warmed39 U.vm ∧ U.heap = h0) (fun _ _ _ _ _ => True) (fun _ U o U' => ∃ v L, o = .returned v ∧ (Q v U'.heap ∧ Keep h0 U'.heap ws ∧ ∀ y ∈ L, y.base ∈ ws ∨ h0.size ≤ y.base) ∧ ReturnedEndW U o U' L rm.cells rm.slots)
theorem OwnMeets.of {y : MethodName} {rm : Room} {as : Array Value} {Q : Option Value → Heap → Prop} (hp : plainFor y = true) (hE : Ext Z.heap h0) (hG : ∀ a ∈ ws, Z.heap.size ≤ a)
    (body : ∀ p e s m below meth c T, OwnCx p Z s m meth c y.cls y.name bytes maxL rt → OwnPos p l e rm s m as below meth c Z ws h0 T h0 0 0 → OwnDone p e below (OwnEnds s Z ws h0 Q rm.cells rm.slots) (T.setTop (entryFrame m as maxL))) :
    OwnMeets l y bytes maxL rt rm Z ws as h0 Q := by
  intro wz
  refine MetFree.of_bodySF hp hisR ?_
  intro p e s m args below meth c s₁ Bd hml hP hK
  obtain ⟨rfl, hZ, hh⟩ := hP
  exact body p e s m below meth c s₁ ⟨Bd.exec, hZ, findClass_of_methodNamed Bd.named, (name_of_methodNamed Bd.named Bd.method).1, Bd.bytes, hml, Bd.returns, Bd.notSynchronized⟩ ⟨_, s.vm, 0, Stand.of_body Bd, ⟨State.Warmed39.refl s, fun j q hj hp => absurd (Array.getElem?_eq_some_iff.mp hp).1 (Nat.not_lt.mpr hj)⟩, Nat.zero_le _, by rw [← hh, Bd.state]; rfl, hh, fun _ q => (nomatch q), hE, hG⟩

/-! the returns -/
theorem own_retN {Q : Option Value → Heap → Prop} {k n : Nat} {t : FieldType} {z z' : Int32} (C : OwnCx p Z s m meth c own nm bytes maxL (some t)) (P : OwnPos p l e R s m args below meth c Z ws h0 T h cells slots)
    (ht : t = .boolean ∨ t = .byte ∨ t = .char ∨ t = .short) (hz : nar t z = z') (hd : decode bytes pc = .ok (.ireturn, 1)) (hk : cells ≤ k) (hn : slots ≤ n) (hQ : Q (some (.int z')) h) :
    OwnDone p e below (OwnEnds s Z ws h0 Q k n) (T.setTop (mkF m pc Ls (.int z :: rest))) := by
  have kp := P.keep
  obtain ⟨hx, hZs, howns, hnm, hby, hml, hret, hlk⟩ := C
  obtain ⟨locs, vm0, k0, X, hS, hk0, eT, e0, N, E0, G0⟩ := P
  have hZ : Z.Warmed39 (s.setVm vm0).vm := State.Warmed39.trans hZs hS.1
  have hown : (s.setVm vm0).vm.findClass own = some m.cls := (hS.1.alike.findClass _ _).trans howns
  subst eT
  subst hz
  obtain ⟨fs, hr, hrun, hended, hEnd⟩ := X.leaveW hS hk0 (v := some (.int (nar t z))) (fun h => by rw [hret] at h; cases h) hlk
  exact ⟨_, _, Jvm.RoadKit.retN X hx hret ht (hb hby hd) hr, hrun, hended, _, _, rfl, ⟨hQ, kp, N⟩, hEnd.1, hEnd.2.1, hEnd.2.2.1, hEnd.2.2.2.mono hk hn⟩

theorem own_retI {Q : Option Value → Heap → Prop} {k n : Nat} {z : Int32} (C : OwnCx p Z s m meth c own nm bytes maxL (some .int)) (P : OwnPos p l e R s m args below meth c Z ws h0 T h cells slots)
    (hd : decode bytes pc = .ok (.ireturn, 1)) (hk : cells ≤ k) (hn : slots ≤ n) (hQ : Q (some (.int z)) h) :
    OwnDone p e below (OwnEnds s Z ws h0 Q k n) (T.setTop (mkF m pc Ls (.int z :: rest))) := by
  have kp := P.keep
  obtain ⟨hx, hZs, howns, hnm, hby, hml, hret, hlk⟩ := C
  obtain ⟨locs, vm0, k0, X, hS, hk0, eT, e0, N, E0, G0⟩ := P
  have hZ : Z.Warmed39 (s.setVm vm0).vm := State.Warmed39.trans hZs hS.1
  have hown : (s.setVm vm0).vm.findClass own = some m.cls := (hS.1.alike.findClass _ _).trans howns
  subst eT
  obtain ⟨fs, hr, hrun, hended, hEnd⟩ := X.leaveW hS hk0 (v := some (.int z)) (fun h => by rw [hret] at h; cases h) hlk
  exact ⟨_, _, retOut X hx hret rfl (Or.inl ⟨rfl, Or.inl rfl, z, rfl⟩) (hb hby hd) hr, hrun, hended, _, _, rfl, ⟨hQ, kp, N⟩, hEnd.1, hEnd.2.1, hEnd.2.2.1, hEnd.2.2.2.mono hk hn⟩

theorem own_retJ {Q : Option Value → Heap → Prop} {k n : Nat} {z : Int64} (C : OwnCx p Z s m meth c own nm bytes maxL (some .long)) (P : OwnPos p l e R s m args below meth c Z ws h0 T h cells slots)
    (hd : decode bytes pc = .ok (.lreturn, 1)) (hk : cells ≤ k) (hn : slots ≤ n) (hQ : Q (some (.long z)) h) :
    OwnDone p e below (OwnEnds s Z ws h0 Q k n) (T.setTop (mkF m pc Ls (.long z :: rest))) := by
  have kp := P.keep
  obtain ⟨hx, hZs, howns, hnm, hby, hml, hret, hlk⟩ := C
  obtain ⟨locs, vm0, k0, X, hS, hk0, eT, e0, N, E0, G0⟩ := P
  have hZ : Z.Warmed39 (s.setVm vm0).vm := State.Warmed39.trans hZs hS.1
  have hown : (s.setVm vm0).vm.findClass own = some m.cls := (hS.1.alike.findClass _ _).trans howns
  subst eT
  obtain ⟨fs, hr, hrun, hended, hEnd⟩ := X.leaveW hS hk0 (v := some (.long z)) (fun h => by rw [hret] at h; cases h) hlk
  exact ⟨_, _, retOut X hx hret rfl (Or.inr (Or.inl ⟨rfl, rfl, z, rfl⟩)) (hb hby hd) hr, hrun, hended, _, _, rfl, ⟨hQ, kp, N⟩, hEnd.1, hEnd.2.1, hEnd.2.2.1, hEnd.2.2.2.mono hk hn⟩

theorem own_retA {Q : Option Value → Heap → Prop} {k n : Nat} {w : Value} {t : FieldType} (C : OwnCx p Z s m meth c own nm bytes maxL (some t)) (P : OwnPos p l e R s m args below meth c Z ws h0 T h cells slots)
    (ht : t.isReference = true) (hw : w.isRef = true) (hd : decode bytes pc = .ok (.areturn, 1)) (hk : cells ≤ k) (hn : slots ≤ n) (hQ : Q (some w) h) :
    OwnDone p e below (OwnEnds s Z ws h0 Q k n) (T.setTop (mkF m pc Ls (w :: rest))) := by
  have kp := P.keep
  obtain ⟨hx, hZs, howns, hnm, hby, hml, hret, hlk⟩ := C
  obtain ⟨locs, vm0, k0, X, hS, hk0, eT, e0, N, E0, G0⟩ := P
  have hZ : Z.Warmed39 (s.setVm vm0).vm := State.Warmed39.trans hZs hS.1
  have hown : (s.setVm vm0).vm.findClass own = some m.cls := (hS.1.alike.findClass _ _).trans howns
  subst eT
  obtain ⟨fs, hr, hrun, hended, hEnd⟩ := X.leaveW hS hk0 (v := some w) (fun h => by rw [hret] at h; cases h) hlk
  have hnr : narrow t w = w := by cases t <;> first | (cases ht; done) | rfl
  exact ⟨_, _, retOut X hx hret hnr (Or.inr (Or.inr (Or.inr (Or.inr ⟨rfl, ht, hw⟩)))) (hb hby hd) hr, hrun, hended, _, _, rfl, ⟨hQ, kp, N⟩, hEnd.1, hEnd.2.1, hEnd.2.2.1, hEnd.2.2.2.mono hk hn⟩

theorem own_retV {Q : Option Value → Heap → Prop} {k n : Nat}  (C : OwnCx p Z s m meth c own nm bytes maxL none) (P : OwnPos p l e R s m args below meth c Z ws h0 T h cells slots)
    (hd : decode bytes pc = .ok (.return_, 1)) (hk : cells ≤ k) (hn : slots ≤ n) (hQ : Q (none) h) :
    OwnDone p e below (OwnEnds s Z ws h0 Q k n) (T.setTop (mkF m pc Ls [])) := by
  have kp := P.keep
  obtain ⟨hx, hZs, howns, hnm, hby, hml, hret, hlk⟩ := C
  obtain ⟨locs, vm0, k0, X, hS, hk0, eT, e0, N, E0, G0⟩ := P
  have hZ : Z.Warmed39 (s.setVm vm0).vm := State.Warmed39.trans hZs hS.1
  have hown : (s.setVm vm0).vm.findClass own = some m.cls := (hS.1.alike.findClass _ _).trans howns
  subst eT
  obtain ⟨fs, hr, hrun, hended, hEnd⟩ := X.leaveW hS hk0 (v := none) (fun _ => rfl) hlk
  exact ⟨_, _, X.returnOut hx hret (hb hby hd) hr, hrun, hended, _, _, rfl, ⟨hQ, kp, N⟩, hEnd.1, hEnd.2.1, hEnd.2.2.1, hEnd.2.2.2.mono hk hn⟩

/-! single steps that ask the tables or the heap -/
theorem own_ldc {target : State} {index : Nat} {v : Int32} (C : OwnCx p Z s m meth c own nm bytes maxL rt) (P : OwnPos p l e R s m args below meth c Z ws h0 T h cells slots)
    (w : (Cond.constant own index v).before a0 Z = true) (hd : decode bytes pc = .ok (.ldc index, 2))
    (k : Steps p.tables e below (T.setTop (mkF m (pc + 2) Ls (.int v :: rest))) target) : Steps p.tables e below (T.setTop (mkF m pc Ls rest)) target := by
  obtain ⟨hx, hZs, howns, hnm, hby, hml, hret, hlk⟩ := C
  obtain ⟨locs, vm0, k0, X, hS, hk0, eT, e0, N, E0, G0⟩ := P
  have hZ : Z.Warmed39 (s.setVm vm0).vm := State.Warmed39.trans hZs hS.1
  have hown : (s.setVm vm0).vm.findClass own = some m.cls := (hS.1.alike.findClass _ _).trans howns
  exact X.ldcInt hx hown (mvT hZ w) (g := mkF m pc Ls rest) rfl (hb hby hd) target k
theorem own_irem {target : State} {x y : Int32} (C : OwnCx p Z s m meth c own nm bytes maxL rt) (P : OwnPos p l e R s m args below meth c Z ws h0 T h cells slots)
    (hy : y ≠ 0) (hd : decode bytes pc = .ok (.irem, 1))
    (k : Steps p.tables e below (T.setTop (mkF m (pc + 1) Ls (.int (x % y) :: rest))) target) : Steps p.tables e below (T.setTop (mkF m pc Ls (.int y :: .int x :: rest))) target := by
  obtain ⟨hx, hZs, howns, hnm, hby, hml, hret, hlk⟩ := C
  obtain ⟨locs, vm0, k0, X, hS, hk0, eT, e0, N, E0, G0⟩ := P
  have hZ : Z.Warmed39 (s.setVm vm0).vm := State.Warmed39.trans hZs hS.1
  have hown : (s.setVm vm0).vm.findClass own = some m.cls := (hS.1.alike.findClass _ _).trans howns
  exact iremM X hx (g := mkF m pc Ls (.int y :: .int x :: rest)) rfl (hb hby hd) rfl hy k
theorem own_getF {R0 O n d host : String} {index : Nat} {a : Addr} {v : Value} (C : OwnCx p Z s m meth c own nm bytes maxL rt) (P : OwnPos p l e R s m args below meth c Z ws h0 T h cells slots)
    (w : (Cond.fieldLink own index R0 n d).before a0 Z = true ∨ (Cond.fieldLinkNest own index R0 n d host).before a0 Z = true) (via : Via Z R0 O n d) (F : Fld Z h a O n d v) (hd : decode bytes pc = .ok (.getfield index, 3))
    (K : ∀ T', OwnPos p l e R s m args below meth c Z ws h0 T' h cells slots → OwnDone p e below W (T'.setTop (mkF m (pc + 3) Ls (v :: rest)))) : OwnDone p e below W (T.setTop (mkF m pc Ls (.ref a :: rest))) := by
  obtain ⟨hx, hZs, howns, hnm, hby, hml, hret, hlk⟩ := C
  obtain ⟨locs, vm0, k0, X, hS, hk0, eT, e0, N, E0, G0⟩ := P
  have hZ : Z.Warmed39 (s.setVm vm0).vm := State.Warmed39.trans hZs hS.1
  have hown : (s.setVm vm0).vm.findClass own = some m.cls := (hS.1.alike.findClass _ _).trans howns
  obtain ⟨T', X', e', st⟩ := getF X hx hZ hown w via eT F (g := mkF m pc Ls (.ref a :: rest)) rfl rfl (hb hby hd)
  exact OwnDone.go st (K T' ⟨_, _, _, X', hS, hk0, e', e0, N, E0, G0⟩)
theorem own_getS {R0 O n d host : String} {index : Nat} {v : Value} (C : OwnCx p Z s m meth c own nm bytes maxL rt) (P : OwnPos p l e R s m args below meth c Z ws h0 T h cells slots)
    (w : (Cond.fieldLink own index R0 n d).before a0 Z = true ∨ (Cond.fieldLinkNest own index R0 n d host).before a0 Z = true) (via : Via Z R0 O n d) (F : Sta Z Z.heap O n d v) (hd : decode bytes pc = .ok (.getstatic index, 3))
    (K : ∀ T', OwnPos p l e R s m args below meth c Z ws h0 T' h cells slots → OwnDone p e below W (T'.setTop (mkF m (pc + 3) Ls (v :: rest)))) : OwnDone p e below W (T.setTop (mkF m pc Ls rest)) := by
  have F := F.ext P.old
  obtain ⟨hx, hZs, howns, hnm, hby, hml, hret, hlk⟩ := C
  obtain ⟨locs, vm0, k0, X, hS, hk0, eT, e0, N, E0, G0⟩ := P
  have hZ : Z.Warmed39 (s.setVm vm0).vm := State.Warmed39.trans hZs hS.1
  have hown : (s.setVm vm0).vm.findClass own = some m.cls := (hS.1.alike.findClass _ _).trans howns
  obtain ⟨T', X', e', st⟩ := getS2 X hx hZ hown w via eT F (g := mkF m pc Ls rest) rfl (hb hby hd)
  exact OwnDone.go st (K T' ⟨_, _, _, X', hS, hk0, e', e0, N, E0, G0⟩)
theorem own_ldcS {text : String} {index n : Nat} (C : OwnCx p Z s m meth c own nm bytes maxL rt) (P : OwnPos p l e R s m args below meth c Z ws h0 T h cells slots)
    (w : (Cond.stringLink own index text).before a0 Z = true) (wS : ∀ a ∈ Bundle.stringAtoms, a.before a0 Z = true) (hd : decode bytes pc = .ok (.ldc index, 2)) (hn : 4 * text.toList.length ≤ n) (hbig : n ≤ 536870912) (hc : cells + 2 ≤ R.cells) (hl : slots + (n + 4) ≤ R.slots)
    (K : ∀ T' h' a, OwnPos p l e R s m args below meth c Z ws h0 T' h' (cells + 2) (slots + (n + 4)) → Keep h h' [] → OwnDone p e below W (T'.setTop (mkF m (pc + 2) Ls (.ref a :: rest)))) : OwnDone p e below W (T.setTop (mkF m pc Ls rest)) := by
  obtain ⟨hx, hZs, howns, hnm, hby, hml, hret, hlk⟩ := C
  obtain ⟨locs, vm0, k0, X, hS, hk0, eT, e0, N, E0, G0⟩ := P
  have hZ : Z.Warmed39 vm0 := State.Warmed39.trans hZs hS.1
  have hown : vm0.findClass own = some m.cls := (hS.1.alike.findClass _ _).trans howns
  obtain ⟨a, T', h', k1, X', e', E', hS', hk', -, -, st⟩ := ldcS X hx hZ hown w wS eT hS hk0 (g := mkF m pc Ls rest) rfl (hb hby hd) hn hbig hc hl
  exact OwnDone.go st (K T' h' a ⟨_, _, _, X', hS', hk', e', e0, N, E0, G0⟩ ((Keep.refl h []).ext E'))
/-! calls, by the callee's contract -/
theorem own_callS {y : MethodName} {yb : ByteArray} {ym : Nat} {yr : Option FieldType} {rm : Room} {Q : Option Value → Heap → Prop} {index wd : Nat} {st : List Value} {as : List Value}
    (C : OwnCx p Z s m meth c own nm bytes maxL rt) (P : OwnPos p l e R s m args below meth c Z ws h0 T h cells slots)
    (w1 : (Cond.methodLink own index y).before a0 Z = true) (w2 : (Cond.static y).before a0 Z = true) (w3 : (Cond.initialized y.cls).before a0 Z = true) (w4 : (Cond.code y yb ym yr).before a0 Z = true)
    (hy : y.cls ≠ "java/lang/invoke/MethodHandle" ∧ y.cls ≠ "java/lang/invoke/VarHandle") (M : OwnMeets l y yb ym yr rm Z ws' as.toArray h Q) {ps : List FieldType} {pr : Option FieldType} (hpd : parseMethodDescriptor y.desc = some ⟨ps, pr⟩) (hlen : as.length = ps.length)
    (hst : st = as.reverse ++ rest) (hwd : (rest.map fun v => v.category).sum = wd) (hsz : Ls.size = maxL) (hd : decode bytes pc = .ok (.invokestatic index, 3))
    (hsub : ∀ a ∈ ws', a ∈ ws ∨ h0.size ≤ a) (hf : rm.frames + 1 ≤ R.frames) (hl : wd + (ym + 11) + rm.locals ≤ R.locals) (hc : cells + rm.cells ≤ R.cells) (hs : slots + rm.slots ≤ R.slots)
    (K : ∀ T' h' v, OwnPos p l e R s m args below meth c Z ws h0 T' h' (cells + rm.cells) (slots + rm.slots) → Keep h h' ws' → Q v h' → OwnDone p e below W (T'.setTop (mkF m (pc + 3) Ls (v.toList ++ rest)))) : OwnDone p e below W (T.setTop (mkF m pc Ls st)) := by
  have kp := P.keep
  obtain ⟨hx, hZs, howns, hnm, hby, hml, hret, hlk⟩ := C
  obtain ⟨locs, vm0, k0, X, hS, hk0, eT, e0, N, E0, G0⟩ := P
  have hZ : Z.Warmed39 (s.setVm vm0).vm := State.Warmed39.trans hZs hS.1
  have hown : (s.setVm vm0).vm.findClass own = some m.cls := (hS.1.alike.findClass _ _).trans howns
  obtain ⟨v, _, ⟨T', L', k', n'⟩, -, X', hS2, hgr, ⟨Lc, ⟨hQ, hK, NQ⟩, l1, l2, l3⟩, stp⟩ := Jvm.RoadKit.callSS X hx (y := y) hown (mvT hZ w1) (mvT hZ w2) (mvT hZ w3) (mvT hZ w4) hy (backOfS (W := wd) (Q := fun v h2 L => Q v h2 ∧ Keep h h2 ws' ∧ ∀ y ∈ L, y.base ∈ ws' ∨ h.size ≤ y.base) (M []) hZ w4 w3 hf hl) (g := mkF m pc Ls st) rfl (by rw [hml]; exact hsz) (argsL := as) (rest := rest) (lenOf hpd hlen) hst (by show 2 * 0 + _ ≤ _; omega) (hb hby hd) (fun _ _ => ⟨rfl, eT, hc, hs⟩)
  dsimp only [Pt.U, Pt.locs, Pt.cells, Pt.slots] at X' l1 l2 l3 stp hQ hK hS2 hgr
  subst l1 l2 l3
  have NN : ∀ y ∈ locs ++ Lc, y.base ∈ ws ∨ h0.size ≤ y.base := fun y hy => by
    rcases List.mem_append.mp hy with q | q
    · exact N y q
    · rcases NQ y q with q | q
      · exact hsub _ q
      · exact Or.inr (Nat.le_trans kp.1 q)
  exact OwnDone.go (fun _ k => stp.trans k) (K T' _ v ⟨_, T'.vm, T'.heap.size, X', hS.trans hS2 (Nat.le_trans hk0 (by rw [← eT]; exact hgr)), Nat.le_refl _, rfl, e0, NN, E0, G0⟩ hK hQ)

theorem own_callV {y z : MethodName} {yb : ByteArray} {ym : Nat} {yr : Option FieldType} {rm : Room} {Q : Option Value → Heap → Prop} {index wd : Nat} {st : List Value} {as : List Value} {b : Addr} {CC : String}
    (C : OwnCx p Z s m meth c own nm bytes maxL rt) (P : OwnPos p l e R s m args below meth c Z ws h0 T h cells slots) (E : Exa Z h b CC)
    (w1 : (Cond.methodLink own index y).before a0 Z = true) (w2 : (Cond.declares y).before a0 Z = true) (nf : (Cond.selects y.cls y y).before a0 Z = true) (w5 : (Cond.selects CC y z).before a0 Z = true) (w6 : (Cond.instanceMethod z).before a0 Z = true) (w3 : (Cond.initialized z.cls).before a0 Z = true) (w4 : (Cond.code z yb ym yr).before a0 Z = true)
    (hy : y.cls ≠ "java/lang/invoke/MethodHandle" ∧ y.cls ≠ "java/lang/invoke/VarHandle") (M : OwnMeets l z yb ym yr rm Z ws' (.ref b :: as).toArray h Q) {ps : List FieldType} {pr : Option FieldType} (hpd : parseMethodDescriptor y.desc = some ⟨ps, pr⟩) (hlen : as.length = ps.length)
    (hst : st = as.reverse ++ .ref b :: rest) (hwd : (rest.map fun v => v.category).sum = wd) (hsz : Ls.size = maxL) (hd : decode bytes pc = .ok (.invokevirtual index, 3))
    (hsub : ∀ a ∈ ws', a ∈ ws ∨ h0.size ≤ a) (hf : rm.frames + 1 ≤ R.frames) (hl : wd + (ym + 11) + rm.locals ≤ R.locals) (hc : cells + rm.cells ≤ R.cells) (hs : slots + rm.slots ≤ R.slots)
    (K : ∀ T' h' v, OwnPos p l e R s m args below meth c Z ws h0 T' h' (cells + rm.cells) (slots + rm.slots) → Keep h h' ws' → Q v h' → OwnDone p e below W (T'.setTop (mkF m (pc + 3) Ls (v.toList ++ rest)))) : OwnDone p e below W (T.setTop (mkF m pc Ls st)) := by
  have kp := P.keep
  obtain ⟨hx, hZs, howns, hnm, hby, hml, hret, hlk⟩ := C
  obtain ⟨locs, vm0, k0, X, hS, hk0, eT, e0, N, E0, G0⟩ := P
  have hZ : Z.Warmed39 (s.setVm vm0).vm := State.Warmed39.trans hZs hS.1
  have hown : (s.setVm vm0).vm.findClass own = some m.cls := (hS.1.alike.findClass _ _).trans howns
  obtain ⟨cq, kq, qa, qb, qc⟩ := isOf hZ eT E
  obtain ⟨v, _, ⟨T', L', k', n'⟩, -, X', hS2, hgr, ⟨Lc, ⟨hQ, hK, NQ⟩, l1, l2, l3⟩, stp⟩ := X.virtualBackS hx (y := y) (z := z) hown (mvT hZ w1) (mvT hZ w2) (notFace_of_selects (args := #[]) (mvT hZ nf)) (mvT hZ w5) (mvT hZ w6) hy (backOfS (W := wd) (Q := fun v h2 L => Q v h2 ∧ Keep h h2 ws' ∧ ∀ y ∈ L, y.base ∈ ws' ∨ h.size ≤ y.base) (M []) hZ w4 w3 hf hl) qa qc (g := mkF m pc Ls st) rfl (by rw [hml]; exact hsz) (Steps.refl _) (argsL := as) (rest := rest) (lenOf hpd hlen) hst (by show 2 * 0 + _ ≤ _; omega) (hb hby hd) (fun _ _ => ⟨rfl, eT, hc, hs⟩)
  dsimp only [Pt.U, Pt.locs, Pt.cells, Pt.slots] at X' l1 l2 l3 stp hQ hK hS2 hgr
  subst l1 l2 l3
  have NN : ∀ y ∈ locs ++ Lc, y.base ∈ ws ∨ h0.size ≤ y.base := fun y hy => by
    rcases List.mem_append.mp hy with q | q
    · exact N y q
    · rcases NQ y q with q | q
      · exact hsub _ q
      · exact Or.inr (Nat.le_trans kp.1 q)
  exact OwnDone.go (fun _ k => stp.trans k) (K T' _ v ⟨_, T'.vm, T'.heap.size, X', hS.trans hS2 (Nat.le_trans hk0 (by rw [← eT]; exact hgr)), Nat.le_refl _, rfl, e0, NN, E0, G0⟩ hK hQ)

theorem own_callI {y : MethodName} {yb : ByteArray} {ym : Nat} {rm : Room} {Q : Option Value → Heap → Prop} {index wd : Nat} {st : List Value} {as : List Value} {b : Addr}
    (C : OwnCx p Z s m meth c own nm bytes maxL rt) (P : OwnPos p l e R s m args below meth c Z ws h0 T h cells slots) (hin : y.name = "<init>")
    (w1 : (Cond.methodLink own index y).before a0 Z = true) (w2 : (Cond.instanceMethod y).before a0 Z = true) (w3 : (Cond.initialized y.cls).before a0 Z = true) (w4 : (Cond.code y yb ym none).before a0 Z = true)
    (hy : y.cls ≠ "java/lang/invoke/MethodHandle" ∧ y.cls ≠ "java/lang/invoke/VarHandle") (M : OwnMeets l y yb ym none rm Z ws' (.ref b :: as).toArray h Q) {ps : List FieldType} {pr : Option FieldType} (hpd : parseMethodDescriptor y.desc = some ⟨ps, pr⟩) (hlen : as.length = ps.length)
    (hst : st = as.reverse ++ .ref b :: rest) (hwd : (rest.map fun v => v.category).sum = wd) (hsz : Ls.size = maxL) (hd : decode bytes pc = .ok (.invokespecial index, 3))
    (hsub : ∀ a ∈ ws', a ∈ ws ∨ h0.size ≤ a) (hf : rm.frames + 1 ≤ R.frames) (hl : wd + (ym + 11) + rm.locals ≤ R.locals) (hc : cells + rm.cells ≤ R.cells) (hs : slots + rm.slots ≤ R.slots)
    (K : ∀ T' h' v, OwnPos p l e R s m args below meth c Z ws h0 T' h' (cells + rm.cells) (slots + rm.slots) → Keep h h' ws' → Q v h' → OwnDone p e below W (T'.setTop (mkF m (pc + 3) Ls (v.toList ++ rest)))) : OwnDone p e below W (T.setTop (mkF m pc Ls st)) := by
  have kp := P.keep
  obtain ⟨hx, hZs, howns, hnm, hby, hml, hret, hlk⟩ := C
  obtain ⟨locs, vm0, k0, X, hS, hk0, eT, e0, N, E0, G0⟩ := P
  have hZ : Z.Warmed39 (s.setVm vm0).vm := State.Warmed39.trans hZs hS.1
  have hown : (s.setVm vm0).vm.findClass own = some m.cls := (hS.1.alike.findClass _ _).trans howns
  obtain ⟨v, _, ⟨T', L', k', n'⟩, -, X', hS2, hgr, ⟨Lc, ⟨hQ, hK, NQ⟩, l1, l2, l3⟩, stp⟩ := X.specialBackS hx (y := y) hin hown (mvT hZ w1) (mvT hZ w2) (mvT hZ w4) hy (backOfS (W := wd) (Q := fun v h2 L => Q v h2 ∧ Keep h h2 ws' ∧ ∀ y ∈ L, y.base ∈ ws' ∨ h.size ≤ y.base) (M []) hZ w4 w3 hf hl) (g := mkF m pc Ls st) rfl (by rw [hml]; exact hsz) (Steps.refl _) (a := b) (argsL := as) (rest := rest) (lenOf hpd hlen) hst (by show 2 * 0 + _ ≤ _; omega) (hb hby hd) (fun _ _ => ⟨rfl, eT, hc, hs⟩)
  dsimp only [Pt.U, Pt.locs, Pt.cells, Pt.slots] at X' l1 l2 l3 stp hQ hK hS2 hgr
  subst l1 l2 l3
  have NN : ∀ y ∈ locs ++ Lc, y.base ∈ ws ∨ h0.size ≤ y.base := fun y hy => by
    rcases List.mem_append.mp hy with q | q
    · exact N y q
    · rcases NQ y q with q | q
      · exact hsub _ q
      · exact Or.inr (Nat.le_trans kp.1 q)
  exact OwnDone.go (fun _ k => stp.trans k) (K T' _ v ⟨_, T'.vm, T'.heap.size, X', hS.trans hS2 (Nat.le_trans hk0 (by rw [← eT]; exact hgr)), Nat.le_refl _, rfl, e0, NN, E0, G0⟩ hK hQ)

theorem own_callP {y : MethodName} {yb : ByteArray} {ym : Nat} {yr : Option FieldType} {rm : Room} {Q : Option Value → Heap → Prop} {index wd : Nat} {st : List Value} {as : List Value} {b : Addr} {CC : String}
    (C : OwnCx p Z s m meth c own nm bytes maxL rt) (P : OwnPos p l e R s m args below meth c Z ws h0 T h cells slots) (E : Exa Z h b CC)
    (w1 : (Cond.methodLink own index y).before a0 Z = true) (w2 : (Cond.instanceMethod y).before a0 Z = true) {nI : Nat} (wi : (Cond.instantiable y.cls nI).before a0 Z = true) (w6 : (Cond.privateMethod y).before a0 Z = true) (w3 : (Cond.initialized y.cls).before a0 Z = true) (w4 : (Cond.code y yb ym yr).before a0 Z = true)
    (hy : y.cls ≠ "java/lang/invoke/MethodHandle" ∧ y.cls ≠ "java/lang/invoke/VarHandle") (M : OwnMeets l y yb ym yr rm Z ws' (.ref b :: as).toArray h Q) {ps : List FieldType} {pr : Option FieldType} (hpd : parseMethodDescriptor y.desc = some ⟨ps, pr⟩) (hlen : as.length = ps.length)
    (hst : st = as.reverse ++ .ref b :: rest) (hwd : (rest.map fun v => v.category).sum = wd) (hsz : Ls.size = maxL) (hd : decode bytes pc = .ok (.invokevirtual index, 3))
    (hsub : ∀ a ∈ ws', a ∈ ws ∨ h0.size ≤ a) (hf : rm.frames + 1 ≤ R.frames) (hl : wd + (ym + 11) + rm.locals ≤ R.locals) (hc : cells + rm.cells ≤ R.cells) (hs : slots + rm.slots ≤ R.slots)
    (K : ∀ T' h' v, OwnPos p l e R s m args below meth c Z ws h0 T' h' (cells + rm.cells) (slots + rm.slots) → Keep h h' ws' → Q v h' → OwnDone p e below W (T'.setTop (mkF m (pc + 3) Ls (v.toList ++ rest)))) : OwnDone p e below W (T.setTop (mkF m pc Ls st)) := by
  have kp := P.keep
  obtain ⟨hx, hZs, howns, hnm, hby, hml, hret, hlk⟩ := C
  obtain ⟨locs, vm0, k0, X, hS, hk0, eT, e0, N, E0, G0⟩ := P
  have hZ : Z.Warmed39 (s.setVm vm0).vm := State.Warmed39.trans hZs hS.1
  have hown : (s.setVm vm0).vm.findClass own = some m.cls := (hS.1.alike.findClass _ _).trans howns
  obtain ⟨cq, qa, qb⟩ := E.cell
  obtain ⟨ci, ki, i1, i2, i3, i4, -⟩ := Cond.instantiable_spec (mvT (args := args) hZ wi)
  have hni : ki.isInterface = false := by
    simp only [Bool.or_eq_false_iff] at i4; exact i4.1
  obtain ⟨v, _, ⟨T', L', k', n'⟩, -, X', hS2, hgr, ⟨Lc, ⟨hQ, hK, NQ⟩, l1, l2, l3⟩, stp⟩ := X.privateBackS hx (y := y) hown (mvT hZ w1) (mvT hZ w2) (selects_self_of_private i1 i2 hni (Cond.privateMethod_at (mvP hZ w6 (args := #[]))) (mvT hZ w2) hy) (Cond.privateMethod_at (mvP hZ w6 (args := #[]))) (mvT hZ w4) hy (backOfS (W := wd) (Q := fun v h2 L => Q v h2 ∧ Keep h h2 ws' ∧ ∀ y ∈ L, y.base ∈ ws' ∨ h.size ≤ y.base) (M []) hZ w4 w3 hf hl) (g := mkF m pc Ls st) rfl (by rw [hml]; exact hsz) (Steps.refl _) (a := b) (by rw [eT]; exact qa) qb (argsL := as) (rest := rest) (lenOf hpd hlen) hst (by show 2 * 0 + _ ≤ _; omega) (hb hby hd) (fun _ _ => ⟨rfl, eT, hc, hs⟩)
  dsimp only [Pt.U, Pt.locs, Pt.cells, Pt.slots] at X' l1 l2 l3 stp hQ hK hS2 hgr
  subst l1 l2 l3
  have NN : ∀ y ∈ locs ++ Lc, y.base ∈ ws ∨ h0.size ≤ y.base := fun y hy => by
    rcases List.mem_append.mp hy with q | q
    · exact N y q
    · rcases NQ y q with q | q
      · exact hsub _ q
      · exact Or.inr (Nat.le_trans kp.1 q)
  exact OwnDone.go (fun _ k => stp.trans k) (K T' _ v ⟨_, T'.vm, T'.heap.size, X', hS.trans hS2 (Nat.le_trans hk0 (by rw [← eT]; exact hgr)), Nat.le_refl _, rfl, e0, NN, E0, G0⟩ hK hQ)

theorem own_initO {index wd : Nat} {a : Addr} (C : OwnCx p Z s m meth c own nm bytes maxL rt) (P : OwnPos p l e R s m args below meth c Z ws h0 T h cells slots)
    (w1 : (Cond.methodLink own index Lib.objectInit).before a0 Z = true) (w2 : (Cond.instanceMethod Lib.objectInit).before a0 Z = true) (w3 : (Cond.code Lib.objectInit ⟨#[0xb1]⟩ 1 none).before a0 Z = true)
    (hwd : (rest.map fun v => v.category).sum = wd) (hsz : Ls.size = maxL) (hd : decode bytes pc = .ok (.invokespecial index, 3)) (hf : 1 ≤ R.frames) (hl : wd + 12 ≤ R.locals)
    (K : ∀ T', OwnPos p l e R s m args below meth c Z ws h0 T' h cells slots → OwnDone p e below W (T'.setTop (mkF m (pc + 3) Ls rest))) : OwnDone p e below W (T.setTop (mkF m pc Ls (.ref a :: rest))) := by
  obtain ⟨hx, hZs, howns, hnm, hby, hml, hret, hlk⟩ := C
  obtain ⟨locs, vm0, k0, X, hS, hk0, eT, e0, N, E0, G0⟩ := P
  have hZ : Z.Warmed39 (s.setVm vm0).vm := State.Warmed39.trans hZs hS.1
  have hown : (s.setVm vm0).vm.findClass own = some m.cls := (hS.1.alike.findClass _ _).trans howns
  obtain ⟨T', X', e', st⟩ := initO X hx hZ hown w1 w2 w3 eT (g := mkF m pc Ls (.ref a :: rest)) rfl (by rw [hml]; exact hsz) rfl (hb hby hd) hf (W := wd) (by show 2 * 0 + _ ≤ _; omega) hl
  exact OwnDone.go st (K T' ⟨_, _, _, X', hS, hk0, e', e0, N, E0, G0⟩)
theorem own_w0 : (([] : List Value).map fun v => v.category).sum = 0 := rfl
theorem own_w1 {v : Value} {L : List Value} {c n k : Nat} (h : v.category = c) (r : (L.map fun v => v.category).sum = n) (e : c + n = k) : ((v :: L).map fun v => v.category).sum = k := by
  rw [List.map_cons, List.sum_cons, r, h, e]
theorem own_neL {x y : Addr} (h : @LT.lt Nat _ x y ∨ @LT.lt Nat _ y x) : x ≠ y := fun q => by subst q; rcases h with h | h <;> exact absurd h (Nat.lt_irrefl _)
theorem own_nb {z : Int32} (h : z = 0 ∨ z = 1) : narrow .boolean (.int z) = .int z := by rcases h with rfl | rfl <;> rfl
theorem own_fb {z : Int32} (h : z = 0 ∨ z = 1) : fits .boolean (.int z) = true := by rcases h with rfl | rfl <;> rfl
theorem own_nref {t : FieldType} {v : Value} (ht : t.isReference = true) : narrow t v = v := by cases t <;> first | (cases ht; done) | rfl
theorem own_fref {t : FieldType} {v : Value} (ht : t.isReference = true) (hv : v.isRef = true) : fits t v = true := by
  cases t <;> first | (cases ht; done) | (cases v <;> first | (cases hv; done) | rfl)
/-! objects: all their fields at once -/
def OwnObj (Z : State) (h : Heap) (a : Addr) (C : String) (lay : List (String × String × String)) (vs : List Value) : Prop :=
  Exa Z h a C ∧ ∀ (i : Nat) (O n d : String) (v : Value), lay[i]? = some (O, n, d) → vs[i]? = some v → Fld Z h a O n d v
/-- the sheet lays these fields; their names are unlike -/
def OwnLaid (Z : State) (a0 : Array Value) (C : String) (lay : List (String × String × String)) : Prop :=
  (∀ q ∈ lay, Laid Z a0 C q.1 q.2.1 q.2.2) ∧ (lay.map fun q => q.2.1).Nodup ∧ ∀ q ∈ lay, ∃ t, parseFieldDescriptor q.2.2 = some t
section Obj
variable {a b : Addr} {CC : String} {lay : List (String × String × String)} {vs vs' : List Value}
theorem OwnObj.lt (F : OwnObj Z h a CC lay vs) : a < h.size := F.1.lt
theorem OwnObj.keep (F : OwnObj Z h a CC lay vs) (K : Keep h h' ws) (q : a ∉ ws) : OwnObj Z h' a CC lay vs :=
  ⟨F.1.keep K, fun i O n d v h1 h2 => (F.2 i O n d v h1 h2).keep K q⟩
theorem own_names (nd : (lay.map fun q => q.2.1).Nodup) {i j : Nat} {O n d O' n' d' : String} (hi : lay[i]? = some (O, n, d)) (hj : lay[j]? = some (O', n', d')) (ne : i ≠ j) : n ≠ n' := fun e => by
  have hl : i < (lay.map fun q => q.2.1).length := by simpa using (List.getElem?_eq_some_iff.mp hi).1
  refine ne ((List.getElem?_inj hl nd).mp ?_)
  simp [hi, hj, e]
theorem OwnObj.put {O n d : String} {v : Value} (F : OwnObj Z h a CC lay vs) (LL : OwnLaid Z a0 CC lay) (W : Wr h h' a (Jvm.RoadKit.slotOf Z O n d) v) (i : Nat) (hi : lay[i]? = some (O, n, d)) (hv : vs.set i v = vs') : OwnObj Z h' a CC lay vs' := by
  subst hv
  refine ⟨F.1.wr W, fun j O' n' d' v' h1 h2 => ?_⟩
  by_cases q : i = j
  · subst q
    cases hi.symm.trans h1
    have hl : i < vs.length := by
      have := (List.getElem?_eq_some_iff.mp h2).1
      simpa using this
    rw [List.getElem?_set_self hl] at h2
    cases h2
    exact (F.2 i _ _ _ _ h1 (List.getElem?_eq_getElem hl)).same W
  · rw [List.getElem?_set_ne q] at h2
    obtain ⟨t, ht⟩ := LL.2.2 (O, n, d) (List.mem_of_getElem? hi)
    obtain ⟨t', ht'⟩ := LL.2.2 (O', n', d') (List.mem_of_getElem? h1)
    have L1 : Laid Z a0 CC O' n' d' := LL.1 (O', n', d') (List.mem_of_getElem? h1)
    have L2 : Laid Z a0 CC O n d := LL.1 (O, n, d) (List.mem_of_getElem? hi)
    have t1 : parseFieldDescriptor d' = some t' := ht'
    have t2 : parseFieldDescriptor d = some t := ht
    have nn : n' ≠ n := own_names LL.2.1 h1 hi (Ne.symm q)
    have sn := Jvm.RoadKit.slot_ne L1 L2 nn t1 t2
    exact (F.2 j O' n' d' v' h1 h2).other W (Or.inr sn)
theorem own_new {n index : Nat} (C : OwnCx p Z s m meth c own nm bytes maxL rt) (P : OwnPos p l e R s m args below meth c Z ws h0 T h cells slots)
    (w : (Cond.classLink own index CC).before a0 Z = true) (wi : (Cond.instantiable CC n).before a0 Z = true) (wz : (Cond.initialized CC).before a0 Z = true) (LL : OwnLaid Z a0 CC lay)
    (hv : lay.map (fun q => (parseFieldDescriptor q.2.2).map defaultValue) = vs.map some) (hd : decode bytes pc = .ok (.new index, 3)) (hc : cells + 1 ≤ R.cells) (hl : slots + n ≤ R.slots)
    (K : ∀ T' h' a, a = h.size → a < h'.size → OwnPos p l e R s m args below meth c Z ws h0 T' h' (cells + 1) (slots + n) → Keep h h' [] → OwnObj Z h' a CC lay vs → OwnDone p e below W (T'.setTop (mkF m (pc + 3) Ls (.ref a :: rest)))) : OwnDone p e below W (T.setTop (mkF m pc Ls rest)) := by
  have kp := P.keep
  obtain ⟨hx, hZs, howns, hnm, hby, hml, hret, hlk⟩ := C
  obtain ⟨locs, vm0, k0, X, hS, hk0, eT, e0, N, E0, G0⟩ := P
  have hZ : Z.Warmed39 (s.setVm vm0).vm := State.Warmed39.trans hZs hS.1
  have hown : (s.setVm vm0).vm.findClass own = some m.cls := (hS.1.alike.findClass _ _).trans howns
  obtain ⟨T', h', X', e', E', A', D', -, st⟩ := newO X hx hZ hown w wi wz eT (g := mkF m pc Ls rest) rfl (hb hby hd) hc hl
  refine OwnDone.go st (K T' h' h.size rfl A'.lt ⟨_, _, _, X', hS, Nat.le_trans hk0 E'.1, e', e0, N, E0, G0⟩ ((Keep.refl h []).ext E') ⟨A', fun i O n d v h1 h2 => ?_⟩)
  have q : (lay.map (fun q => (parseFieldDescriptor q.2.2).map defaultValue))[i]? = (vs.map some)[i]? := by rw [hv]
  simp only [List.getElem?_map, h1, h2, Option.map_some] at q
  obtain ⟨t, ht⟩ := LL.2.2 _ (List.mem_of_getElem? h1)
  rw [ht] at q
  obtain rfl : defaultValue t = v := by simpa using q
  exact D' (LL.1 _ (List.mem_of_getElem? h1)) ht
theorem own_putO {R0 O n d : String} {index kk : Nat} {ty : FieldType} {v v' : Value} (C : OwnCx p Z s m meth c own nm bytes maxL rt) (P : OwnPos p l e R s m args below meth c Z ws h0 T h cells slots)
    (w : (Cond.fieldLink own index R0 n d).before a0 Z = true) (via : Via Z R0 O n d) (F : OwnObj Z h a CC lay vs) (LL : OwnLaid Z a0 CC lay) (i : Nat) (hi : lay[i]? = some (O, n, d)) {old : Value} (ho : vs[i]? = some old)
    (L : (Cond.lays CC O n d).before a0 Z = true ∨ ((Cond.laysFinal CC O n d).before a0 Z = true ∧ own = O ∧ nm = "<init>")) (wi : (Cond.instantiable CC kk).before a0 Z = true)
    (hty : parseFieldDescriptor d = some ty) (hn : narrow ty v = v') (hf : fits ty v' = true) (hge : a ∈ ws ∨ h0.size ≤ a) (hd : decode bytes pc = .ok (.putfield index, 3)) (hvs : vs.set i v' = vs')
    (K : ∀ T' h', OwnPos p l e R s m args below meth c Z ws h0 T' h' cells slots → Keep h h' [a] → OwnObj Z h' a CC lay vs' → OwnDone p e below W (T'.setTop (mkF m (pc + 3) Ls rest))) : OwnDone p e below W (T.setTop (mkF m pc Ls (v :: .ref a :: rest))) := by
  obtain ⟨hx, hZs, howns, hnm, hby, hml, hret, hlk⟩ := C
  obtain ⟨locs, vm0, k0, X, hS, hk0, eT, e0, N, E0, G0⟩ := P
  have hZ : Z.Warmed39 (s.setVm vm0).vm := State.Warmed39.trans hZs hS.1
  have hown : (s.setVm vm0).vm.findClass own = some m.cls := (hS.1.alike.findClass _ _).trans howns
  subst hnm
  obtain ⟨T', h', X', e', W', st⟩ := putFN X hx hZ hown w via eT (F.2 i _ _ _ _ hi ho) F.1 L wi hty hn hf (g := mkF m pc Ls (v :: .ref a :: rest)) rfl rfl (hb hby hd)
  have NN : ∀ y ∈ locs ++ [⟨a, Jvm.RoadKit.slotOf Z O n d⟩], y.base ∈ ws ∨ h0.size ≤ y.base := fun y hy => by
    rcases List.mem_append.mp hy with q | q
    · exact N y q
    · cases List.mem_singleton.mp q; exact hge
  exact OwnDone.go st (K T' h' ⟨_, _, _, X', hS, (by rw [W'.size]; exact hk0), e', e0, NN, E0, G0⟩ (Keep.of_wr W') (F.put LL W' i hi hvs))
end Obj
/-! arrays: all their elements at once -/
def OwnAry (Z : State) (h : Heap) (a : Addr) (k : ClassId) (ty : FieldType) (vs : List Value) : Prop := ∃ c : Cell, Arr Z h a c ty ∧ c.cls = k ∧ c.slots.toList = vs
section Ary
variable {a b : Addr} {k : ClassId} {ty : FieldType} {vs vs' : List Value} {j : Int32}
theorem OwnAry.lt (F : OwnAry Z h a k ty vs) : a < h.size := by obtain ⟨c, A, -⟩ := F; exact A.lt
theorem OwnAry.keep (F : OwnAry Z h a k ty vs) (K : Keep h h' ws) (q : a ∉ ws) : OwnAry Z h' a k ty vs := by
  obtain ⟨c, A, r⟩ := F; exact ⟨c, ⟨K.2.1 a c A.1 q, A.2⟩, r⟩
theorem OwnAry.ext (F : OwnAry Z h a k ty vs) (E : Ext h h') : OwnAry Z h' a k ty vs := by obtain ⟨c, A, r⟩ := F; exact ⟨c, A.ext E, r⟩
theorem OwnAry.set {i : Nat} {v : Value} (F : OwnAry Z h a k ty vs) (W : Wr h h' a i v) : OwnAry Z h' a k ty (vs.set i v) := by
  obtain ⟨c, A, r1, r2⟩ := F
  exact ⟨_, A.same W, r1, by rw [← r2]; simp [Cell.setSlot]⟩
theorem own_in {c : Cell} (r : c.slots.toList = vs) (h1 : ¬ j < 0) (h2 : j.toNatClampNeg < vs.length) : ¬ (j < 0 ∨ c.slots.size ≤ j.toNatClampNeg) := by
  have e : c.slots.size = vs.length := by rw [← r]; simp
  rw [e]; rintro (q | q)
  · exact h1 q
  · omega
theorem own_at {c : Cell} {i : Nat} (r : c.slots.toList = vs) : c.slots[i]? = vs[i]? := by rw [← r]; simp
theorem own_cls {cc : Cell} {ad : String} (A : Arr Z h a cc ty) (E : Exa Z h a ad) : Z.vm.findClass ad = some cc.cls := by
  obtain ⟨c1, k1, h1, h2, -⟩ := E
  cases A.1.symm.trans h1
  exact h2
theorem OwnAry.ins {cn : String} (F : OwnAry Z h a k ty vs) (hk : Z.vm.findClass cn = some k) : Ins Z h a cn true := by
  obtain ⟨c1, A, rfl, -⟩ := F
  exact ⟨c1, _, A.1, hk, by simp [A.plain, Vm.assignable_self]⟩
theorem OwnAry.insC {cn C' : String} (F : OwnAry Z h a k ty vs) (hk : Z.vm.findClass cn = some k) (w : (Cond.castable cn C').before a0 Z = true) : Ins Z h a C' true := by
  obtain ⟨c1, A, rfl, -⟩ := F
  obtain ⟨d1, d2, g1, g2, g3⟩ := Cond.castable_spec w
  cases hk.symm.trans g1
  exact ⟨c1, d2, A.1, g2, by simp [A.plain, g3]⟩
theorem own_insK {C' : String} {y : Addr} (I : Ins Z h y C' true) (K : Keep h h' ws) : Ins Z h' y C' true := by
  obtain ⟨c1, cT, h1, h2, h3⟩ := I
  obtain ⟨c2, k1, k2, k3, -⟩ := K.2.2 _ _ h1
  exact ⟨c2, cT, k1, h2, by rw [k2, k3]; exact h3⟩
theorem OwnAry.sto {C' : String} {y : Addr} (F : OwnAry Z h a k ty vs) (O : Ovr Z k C') (I : Ins Z h y C' true) : Sto Z h a (.ref y) := by
  obtain ⟨c1, A, q, -⟩ := F; exact Sto.ofV A q O I
theorem OwnAry.stoA {C' : String} {t : FieldType} {y : Addr} (F : OwnAry Z h a k ty vs) (O : OvrA Z k t C') (I : Ins Z h y C' true) : Sto Z h a (.ref y) := by
  obtain ⟨c1, A, q, -⟩ := F; exact Sto.ofVA A q O I
theorem own_newP {aty : ArrayType} {n : Int32} {cap : Nat} {ad : String} (C : OwnCx p Z s m meth c own nm bytes maxL rt) (P : OwnPos p l e R s m args below meth c Z ws h0 T h cells slots)
    (w : (Cond.arrayClass (newarray.typeOf aty)).before a0 Z = true) (hd : decode bytes pc = .ok (.newarray aty, 2)) (hn : ¬ n < 0) (hcap : n.toNatClampNeg ≤ cap) (hbb : cap * 8 ≤ 536870912) (hvs : List.replicate n.toNatClampNeg (defaultValue (newarray.typeOf aty)) = vs) (had : "[" ++ (newarray.typeOf aty).toString = ad) (hc : cells + 1 ≤ R.cells) (hl : slots + cap ≤ R.slots)
    (K : ∀ T' h' a k, a = h.size → a < h'.size → OwnPos p l e R s m args below meth c Z ws h0 T' h' (cells + 1) (slots + cap) → Keep h h' [] → OwnAry Z h' a k (newarray.typeOf aty) vs → Z.vm.findClass ad = some k → OwnDone p e below W (T'.setTop (mkF m (pc + 2) Ls (.ref a :: rest)))) : OwnDone p e below W (T.setTop (mkF m pc Ls (.int n :: rest))) := by
  obtain ⟨hx, hZs, howns, hnm, hby, hml, hret, hlk⟩ := C
  obtain ⟨locs, vm0, k0, X, hS, hk0, eT, e0, N, E0, G0⟩ := P
  have hZ : Z.Warmed39 (s.setVm vm0).vm := State.Warmed39.trans hZs hS.1
  have hown : (s.setVm vm0).vm.findClass own = some m.cls := (hS.1.alike.findClass _ _).trans howns
  obtain ⟨T', h', cA, X', e', E', A', EX, st⟩ := newPE X hx hZ w eT (g := mkF m pc Ls (.int n :: rest)) rfl (hb hby hd) rfl hn hcap hbb hc hl had
  exact OwnDone.go st (K T' h' h.size cA rfl A'.lt ⟨_, _, _, X', hS, Nat.le_trans hk0 E'.1, e', e0, N, E0, G0⟩ ((Keep.refl h []).ext E') ⟨_, A', rfl, by rw [← hvs]; simp [newA]⟩ (own_cls A' EX))
theorem own_newR {CC : String} {index : Nat} {n : Int32} {cap : Nat} {ad : String} (C : OwnCx p Z s m meth c own nm bytes maxL rt) (P : OwnPos p l e R s m args below meth c Z ws h0 T h cells slots)
    (w1 : (Cond.classLink own index CC).before a0 Z = true) (w2 : (Cond.arrayOver (.object CC)).before a0 Z = true) (hd : decode bytes pc = .ok (.anewarray index, 3)) (hn : ¬ n < 0) (hcap : n.toNatClampNeg ≤ cap) (hbb : cap * 8 ≤ 536870912) (hvs : List.replicate n.toNatClampNeg Value.null = vs) (had : "[" ++ (FieldType.object CC).toString = ad) (hc : cells + 1 ≤ R.cells) (hl : slots + cap ≤ R.slots)
    (K : ∀ T' h' a k, a = h.size → a < h'.size → OwnPos p l e R s m args below meth c Z ws h0 T' h' (cells + 1) (slots + cap) → Keep h h' [] → OwnAry Z h' a k (.object CC) vs → Z.vm.findClass ad = some k → Ovr Z k CC → OwnDone p e below W (T'.setTop (mkF m (pc + 3) Ls (.ref a :: rest)))) : OwnDone p e below W (T.setTop (mkF m pc Ls (.int n :: rest))) := by
  obtain ⟨hx, hZs, howns, hnm, hby, hml, hret, hlk⟩ := C
  obtain ⟨locs, vm0, k0, X, hS, hk0, eT, e0, N, E0, G0⟩ := P
  have hZ : Z.Warmed39 (s.setVm vm0).vm := State.Warmed39.trans hZs hS.1
  have hown : (s.setVm vm0).vm.findClass own = some m.cls := (hS.1.alike.findClass _ _).trans howns
  obtain ⟨T', h', cA, X', e', E', A', EX, O', st⟩ := newRE X hx hZ hown w1 w2 eT (g := mkF m pc Ls (.int n :: rest)) rfl (hb hby hd) rfl hn hcap hbb hc hl had
  exact OwnDone.go st (K T' h' h.size cA rfl A'.lt ⟨_, _, _, X', hS, Nat.le_trans hk0 E'.1, e', e0, N, E0, G0⟩ ((Keep.refl h []).ext E') ⟨_, A', rfl, by rw [← hvs]; simp [newA, defaultValue]⟩ (own_cls A' EX) O')
theorem own_newA {CC : String} {t : FieldType} {index : Nat} {n : Int32} {cap : Nat} {ad : String} (C : OwnCx p Z s m meth c own nm bytes maxL rt) (P : OwnPos p l e R s m args below meth c Z ws h0 T h cells slots)
    (hC : (FieldType.array t).toString = CC) (w1 : (Cond.classLink own index CC).before a0 Z = true) (w2 : (Cond.arrayOver (.array t)).before a0 Z = true) (hd : decode bytes pc = .ok (.anewarray index, 3)) (hn : ¬ n < 0) (hcap : n.toNatClampNeg ≤ cap) (hbb : cap * 8 ≤ 536870912) (hvs : List.replicate n.toNatClampNeg Value.null = vs) (had : "[" ++ CC = ad) (hc : cells + 1 ≤ R.cells) (hl : slots + cap ≤ R.slots)
    (K : ∀ T' h' a k, a = h.size → a < h'.size → OwnPos p l e R s m args below meth c Z ws h0 T' h' (cells + 1) (slots + cap) → Keep h h' [] → OwnAry Z h' a k (.array t) vs → Z.vm.findClass ad = some k → OvrA Z k t CC → OwnDone p e below W (T'.setTop (mkF m (pc + 3) Ls (.ref a :: rest)))) : OwnDone p e below W (T.setTop (mkF m pc Ls (.int n :: rest))) := by
  obtain ⟨hx, hZs, howns, hnm, hby, hml, hret, hlk⟩ := C
  obtain ⟨locs, vm0, k0, X, hS, hk0, eT, e0, N, E0, G0⟩ := P
  have hZ : Z.Warmed39 (s.setVm vm0).vm := State.Warmed39.trans hZs hS.1
  have hown : (s.setVm vm0).vm.findClass own = some m.cls := (hS.1.alike.findClass _ _).trans howns
  obtain ⟨T', h', cA, X', e', E', A', EX, O', st⟩ := newRA X hx hZ hown hC w1 w2 eT (g := mkF m pc Ls (.int n :: rest)) rfl (hb hby hd) rfl hn hcap hbb hc hl had
  exact OwnDone.go st (K T' h' h.size cA rfl A'.lt ⟨_, _, _, X', hS, Nat.le_trans hk0 E'.1, e', e0, N, E0, G0⟩ ((Keep.refl h []).ext E') ⟨_, A', rfl, by rw [← hvs]; simp [newA, defaultValue]⟩ (own_cls A' EX) O')
theorem own_iastore {x : Int32} (C : OwnCx p Z s m meth c own nm bytes maxL rt) (P : OwnPos p l e R s m args below meth c Z ws h0 T h cells slots)
    (F : OwnAry Z h a k .int vs) (h1 : ¬ j < 0) (h2 : j.toNatClampNeg < vs.length) (hge : a ∈ ws ∨ h0.size ≤ a) (hd : decode bytes pc = .ok (.iastore, 1)) (hvs : vs.set j.toNatClampNeg (.int x) = vs')
    (K : ∀ T' h', OwnPos p l e R s m args below meth c Z ws h0 T' h' cells slots → Keep h h' [a] → OwnAry Z h' a k .int vs' → OwnDone p e below W (T'.setTop (mkF m (pc + 1) Ls rest))) : OwnDone p e below W (T.setTop (mkF m pc Ls ((.int x) :: .int j :: .ref a :: rest))) := by
  obtain ⟨hx, hZs, howns, hnm, hby, hml, hret, hlk⟩ := C
  obtain ⟨locs, vm0, k0, X, hS, hk0, eT, e0, N, E0, G0⟩ := P
  have hZ : Z.Warmed39 (s.setVm vm0).vm := State.Warmed39.trans hZs hS.1
  have hown : (s.setVm vm0).vm.findClass own = some m.cls := (hS.1.alike.findClass _ _).trans howns
  obtain ⟨c0, A0, r1, r2⟩ := id F
  obtain ⟨T', h', X', e', W', st⟩ := stI X hx hZ eT A0 (own_in r2 h1 h2) (g := mkF m pc Ls ((.int x) :: .int j :: .ref a :: rest)) rfl rfl (hb hby hd)
  have NN : ∀ y ∈ locs ++ [⟨a, j.toNatClampNeg⟩], y.base ∈ ws ∨ h0.size ≤ y.base := fun y hy => by
    rcases List.mem_append.mp hy with q | q
    · exact N y q
    · cases List.mem_singleton.mp q; exact hge
  exact OwnDone.go st (K T' h' ⟨_, _, _, X', hS, (by rw [W'.size]; exact hk0), e', e0, NN, E0, G0⟩ (Keep.of_wr W') (hvs ▸ F.set W'))
theorem own_lastore {x : Int64} (C : OwnCx p Z s m meth c own nm bytes maxL rt) (P : OwnPos p l e R s m args below meth c Z ws h0 T h cells slots)
    (F : OwnAry Z h a k .long vs) (h1 : ¬ j < 0) (h2 : j.toNatClampNeg < vs.length) (hge : a ∈ ws ∨ h0.size ≤ a) (hd : decode bytes pc = .ok (.lastore, 1)) (hvs : vs.set j.toNatClampNeg (.long x) = vs')
    (K : ∀ T' h', OwnPos p l e R s m args below meth c Z ws h0 T' h' cells slots → Keep h h' [a] → OwnAry Z h' a k .long vs' → OwnDone p e below W (T'.setTop (mkF m (pc + 1) Ls rest))) : OwnDone p e below W (T.setTop (mkF m pc Ls ((.long x) :: .int j :: .ref a :: rest))) := by
  obtain ⟨hx, hZs, howns, hnm, hby, hml, hret, hlk⟩ := C
  obtain ⟨locs, vm0, k0, X, hS, hk0, eT, e0, N, E0, G0⟩ := P
  have hZ : Z.Warmed39 (s.setVm vm0).vm := State.Warmed39.trans hZs hS.1
  have hown : (s.setVm vm0).vm.findClass own = some m.cls := (hS.1.alike.findClass _ _).trans howns
  obtain ⟨c0, A0, r1, r2⟩ := id F
  obtain ⟨T', h', X', e', W', st⟩ := stJ X hx hZ eT A0 (own_in r2 h1 h2) (g := mkF m pc Ls ((.long x) :: .int j :: .ref a :: rest)) rfl rfl (hb hby hd)
  have NN : ∀ y ∈ locs ++ [⟨a, j.toNatClampNeg⟩], y.base ∈ ws ∨ h0.size ≤ y.base := fun y hy => by
    rcases List.mem_append.mp hy with q | q
    · exact N y q
    · cases List.mem_singleton.mp q; exact hge
  exact OwnDone.go st (K T' h' ⟨_, _, _, X', hS, (by rw [W'.size]; exact hk0), e', e0, NN, E0, G0⟩ (Keep.of_wr W') (hvs ▸ F.set W'))
theorem own_castore {x : Int32} (C : OwnCx p Z s m meth c own nm bytes maxL rt) (P : OwnPos p l e R s m args below meth c Z ws h0 T h cells slots)
    (F : OwnAry Z h a k .char vs) (h1 : ¬ j < 0) (h2 : j.toNatClampNeg < vs.length) (hge : a ∈ ws ∨ h0.size ≤ a) (hd : decode bytes pc = .ok (.castore, 1)) (hvs : vs.set j.toNatClampNeg (.int (nar .char x)) = vs')
    (K : ∀ T' h', OwnPos p l e R s m args below meth c Z ws h0 T' h' cells slots → Keep h h' [a] → OwnAry Z h' a k .char vs' → OwnDone p e below W (T'.setTop (mkF m (pc + 1) Ls rest))) : OwnDone p e below W (T.setTop (mkF m pc Ls (.int x :: .int j :: .ref a :: rest))) := by
  obtain ⟨hx, hZs, howns, hnm, hby, hml, hret, hlk⟩ := C
  obtain ⟨locs, vm0, k0, X, hS, hk0, eT, e0, N, E0, G0⟩ := P
  have hZ : Z.Warmed39 (s.setVm vm0).vm := State.Warmed39.trans hZs hS.1
  have hown : (s.setVm vm0).vm.findClass own = some m.cls := (hS.1.alike.findClass _ _).trans howns
  obtain ⟨c0, A0, r1, r2⟩ := id F
  obtain ⟨T', h', X', e', W', st⟩ := stC X hx hZ eT A0 (own_in r2 h1 h2) (g := mkF m pc Ls (.int x :: .int j :: .ref a :: rest)) rfl rfl (hb hby hd)
  have NN : ∀ y ∈ locs ++ [⟨a, j.toNatClampNeg⟩], y.base ∈ ws ∨ h0.size ≤ y.base := fun y hy => by
    rcases List.mem_append.mp hy with q | q
    · exact N y q
    · cases List.mem_singleton.mp q; exact hge
  exact OwnDone.go st (K T' h' ⟨_, _, _, X', hS, (by rw [W'.size]; exact hk0), e', e0, NN, E0, G0⟩ (Keep.of_wr W') (hvs ▸ F.set W'))
theorem own_bastore {x : Int32} (C : OwnCx p Z s m meth c own nm bytes maxL rt) (P : OwnPos p l e R s m args below meth c Z ws h0 T h cells slots)
    (F : OwnAry Z h a k .byte vs) (h1 : ¬ j < 0) (h2 : j.toNatClampNeg < vs.length) (hge : a ∈ ws ∨ h0.size ≤ a) (hd : decode bytes pc = .ok (.bastore, 1)) (hvs : vs.set j.toNatClampNeg (.int (nar .byte x)) = vs')
    (K : ∀ T' h', OwnPos p l e R s m args below meth c Z ws h0 T' h' cells slots → Keep h h' [a] → OwnAry Z h' a k .byte vs' → OwnDone p e below W (T'.setTop (mkF m (pc + 1) Ls rest))) : OwnDone p e below W (T.setTop (mkF m pc Ls (.int x :: .int j :: .ref a :: rest))) := by
  obtain ⟨hx, hZs, howns, hnm, hby, hml, hret, hlk⟩ := C
  obtain ⟨locs, vm0, k0, X, hS, hk0, eT, e0, N, E0, G0⟩ := P
  have hZ : Z.Warmed39 (s.setVm vm0).vm := State.Warmed39.trans hZs hS.1
  have hown : (s.setVm vm0).vm.findClass own = some m.cls := (hS.1.alike.findClass _ _).trans howns
  obtain ⟨c0, A0, r1, r2⟩ := id F
  obtain ⟨T', h', X', e', W', st⟩ := stB X hx hZ eT A0 (own_in r2 h1 h2) (g := mkF m pc Ls (.int x :: .int j :: .ref a :: rest)) rfl rfl (hb hby hd)
  have NN : ∀ y ∈ locs ++ [⟨a, j.toNatClampNeg⟩], y.base ∈ ws ∨ h0.size ≤ y.base := fun y hy => by
    rcases List.mem_append.mp hy with q | q
    · exact N y q
    · cases List.mem_singleton.mp q; exact hge
  exact OwnDone.go st (K T' h' ⟨_, _, _, X', hS, (by rw [W'.size]; exact hk0), e', e0, NN, E0, G0⟩ (Keep.of_wr W') (hvs ▸ F.set W'))
theorem own_aastore {v : Value} (C : OwnCx p Z s m meth c own nm bytes maxL rt) (P : OwnPos p l e R s m args below meth c Z ws h0 T h cells slots)
    (F : OwnAry Z h a k ty vs) (hty : ty.isReference = true) (h1 : ¬ j < 0) (h2 : j.toNatClampNeg < vs.length) (S : Sto Z h a v) (hge : a ∈ ws ∨ h0.size ≤ a) (hd : decode bytes pc = .ok (.aastore, 1)) (hvs : vs.set j.toNatClampNeg v = vs')
    (K : ∀ T' h', OwnPos p l e R s m args below meth c Z ws h0 T' h' cells slots → Keep h h' [a] → OwnAry Z h' a k ty vs' → OwnDone p e below W (T'.setTop (mkF m (pc + 1) Ls rest))) : OwnDone p e below W (T.setTop (mkF m pc Ls (v :: .int j :: .ref a :: rest))) := by
  obtain ⟨hx, hZs, howns, hnm, hby, hml, hret, hlk⟩ := C
  obtain ⟨locs, vm0, k0, X, hS, hk0, eT, e0, N, E0, G0⟩ := P
  have hZ : Z.Warmed39 (s.setVm vm0).vm := State.Warmed39.trans hZs hS.1
  have hown : (s.setVm vm0).vm.findClass own = some m.cls := (hS.1.alike.findClass _ _).trans howns
  obtain ⟨c0, A0, r1, r2⟩ := id F
  obtain ⟨T', h', X', e', W', st⟩ := stR X hx hZ eT A0 (own_in r2 h1 h2) hty S (g := mkF m pc Ls (v :: .int j :: .ref a :: rest)) rfl rfl (hb hby hd)
  have NN : ∀ y ∈ locs ++ [⟨a, j.toNatClampNeg⟩], y.base ∈ ws ∨ h0.size ≤ y.base := fun y hy => by
    rcases List.mem_append.mp hy with q | q
    · exact N y q
    · cases List.mem_singleton.mp q; exact hge
  exact OwnDone.go st (K T' h' ⟨_, _, _, X', hS, (by rw [W'.size]; exact hk0), e', e0, NN, E0, G0⟩ (Keep.of_wr W') (hvs ▸ F.set W'))
theorem own_iaload {v : Value} {target : State} (C : OwnCx p Z s m meth c own nm bytes maxL rt) (P : OwnPos p l e R s m args below meth c Z ws h0 T h cells slots)
    (F : OwnAry Z h a k .int vs) (h1 : ¬ j < 0) (hv : vs[j.toNatClampNeg]? = some v) (hd : decode bytes pc = .ok (.iaload, 1))
    (K : Steps p.tables e below (T.setTop (mkF m (pc + 1) Ls (v :: rest))) target) : Steps p.tables e below (T.setTop (mkF m pc Ls (.int j :: .ref a :: rest))) target := by
  obtain ⟨hx, hZs, howns, hnm, hby, hml, hret, hlk⟩ := C
  obtain ⟨locs, vm0, k0, X, hS, hk0, eT, e0, N, E0, G0⟩ := P
  have hZ : Z.Warmed39 (s.setVm vm0).vm := State.Warmed39.trans hZs hS.1
  have hown : (s.setVm vm0).vm.findClass own = some m.cls := (hS.1.alike.findClass _ _).trans howns
  obtain ⟨c0, A0, r1, r2⟩ := F
  exact X.iaload hx (j := j) (v := v) (by rw [eT]; exact A0.1) (State.isArrayOf_alike hZ.alike A0.2.1) A0.2.2 (own_in r2 h1 (List.getElem?_eq_some_iff.mp hv).1) ((own_at r2).trans hv) (g := mkF m pc Ls (.int j :: .ref a :: rest)) rfl rfl (hb hby hd) target K
theorem own_laload {v : Value} {target : State} (C : OwnCx p Z s m meth c own nm bytes maxL rt) (P : OwnPos p l e R s m args below meth c Z ws h0 T h cells slots)
    (F : OwnAry Z h a k .long vs) (h1 : ¬ j < 0) (hv : vs[j.toNatClampNeg]? = some v) (hd : decode bytes pc = .ok (.laload, 1))
    (K : Steps p.tables e below (T.setTop (mkF m (pc + 1) Ls (v :: rest))) target) : Steps p.tables e below (T.setTop (mkF m pc Ls (.int j :: .ref a :: rest))) target := by
  obtain ⟨hx, hZs, howns, hnm, hby, hml, hret, hlk⟩ := C
  obtain ⟨locs, vm0, k0, X, hS, hk0, eT, e0, N, E0, G0⟩ := P
  have hZ : Z.Warmed39 (s.setVm vm0).vm := State.Warmed39.trans hZs hS.1
  have hown : (s.setVm vm0).vm.findClass own = some m.cls := (hS.1.alike.findClass _ _).trans howns
  obtain ⟨c0, A0, r1, r2⟩ := F
  exact X.laload hx (j := j) (v := v) (by rw [eT]; exact A0.1) (State.isArrayOf_alike hZ.alike A0.2.1) A0.2.2 (own_in r2 h1 (List.getElem?_eq_some_iff.mp hv).1) ((own_at r2).trans hv) (g := mkF m pc Ls (.int j :: .ref a :: rest)) rfl rfl (hb hby hd) target K
theorem own_caload {v : Value} {target : State} (C : OwnCx p Z s m meth c own nm bytes maxL rt) (P : OwnPos p l e R s m args below meth c Z ws h0 T h cells slots)
    (F : OwnAry Z h a k .char vs) (h1 : ¬ j < 0) (hv : vs[j.toNatClampNeg]? = some v) (hd : decode bytes pc = .ok (.caload, 1))
    (K : Steps p.tables e below (T.setTop (mkF m (pc + 1) Ls (v :: rest))) target) : Steps p.tables e below (T.setTop (mkF m pc Ls (.int j :: .ref a :: rest))) target := by
  obtain ⟨hx, hZs, howns, hnm, hby, hml, hret, hlk⟩ := C
  obtain ⟨locs, vm0, k0, X, hS, hk0, eT, e0, N, E0, G0⟩ := P
  have hZ : Z.Warmed39 (s.setVm vm0).vm := State.Warmed39.trans hZs hS.1
  have hown : (s.setVm vm0).vm.findClass own = some m.cls := (hS.1.alike.findClass _ _).trans howns
  obtain ⟨c0, A0, r1, r2⟩ := F
  exact X.caload hx (j := j) (v := v) (by rw [eT]; exact A0.1) (State.isArrayOf_alike hZ.alike A0.2.1) A0.2.2 (own_in r2 h1 (List.getElem?_eq_some_iff.mp hv).1) ((own_at r2).trans hv) (g := mkF m pc Ls (.int j :: .ref a :: rest)) rfl rfl (hb hby hd) target K
theorem own_baload {v : Value} {target : State} (C : OwnCx p Z s m meth c own nm bytes maxL rt) (P : OwnPos p l e R s m args below meth c Z ws h0 T h cells slots)
    (F : OwnAry Z h a k .byte vs) (h1 : ¬ j < 0) (hv : vs[j.toNatClampNeg]? = some v) (hd : decode bytes pc = .ok (.baload, 1))
    (K : Steps p.tables e below (T.setTop (mkF m (pc + 1) Ls (v :: rest))) target) : Steps p.tables e below (T.setTop (mkF m pc Ls (.int j :: .ref a :: rest))) target := by
  obtain ⟨hx, hZs, howns, hnm, hby, hml, hret, hlk⟩ := C
  obtain ⟨locs, vm0, k0, X, hS, hk0, eT, e0, N, E0, G0⟩ := P
  have hZ : Z.Warmed39 (s.setVm vm0).vm := State.Warmed39.trans hZs hS.1
  have hown : (s.setVm vm0).vm.findClass own = some m.cls := (hS.1.alike.findClass _ _).trans howns
  obtain ⟨c0, A0, r1, r2⟩ := F
  exact X.baloadBytes hx (j := j) (v := v) (by rw [eT]; exact A0.1) (State.isArrayOf_alike hZ.alike A0.2.1) A0.2.2 (own_in r2 h1 (List.getElem?_eq_some_iff.mp hv).1) ((own_at r2).trans hv) (g := mkF m pc Ls (.int j :: .ref a :: rest)) rfl rfl (hb hby hd) target K
theorem own_aaload {v : Value} {target : State} (C : OwnCx p Z s m meth c own nm bytes maxL rt) (P : OwnPos p l e R s m args below meth c Z ws h0 T h cells slots)
    (F : OwnAry Z h a k ty vs) (hty : ty.isReference = true) (h1 : ¬ j < 0) (hv : vs[j.toNatClampNeg]? = some v) (hd : decode bytes pc = .ok (.aaload, 1))
    (K : Steps p.tables e below (T.setTop (mkF m (pc + 1) Ls (v :: rest))) target) : Steps p.tables e below (T.setTop (mkF m pc Ls (.int j :: .ref a :: rest))) target := by
  obtain ⟨hx, hZs, howns, hnm, hby, hml, hret, hlk⟩ := C
  obtain ⟨locs, vm0, k0, X, hS, hk0, eT, e0, N, E0, G0⟩ := P
  have hZ : Z.Warmed39 (s.setVm vm0).vm := State.Warmed39.trans hZs hS.1
  have hown : (s.setVm vm0).vm.findClass own = some m.cls := (hS.1.alike.findClass _ _).trans howns
  obtain ⟨c0, A0, r1, r2⟩ := F
  exact X.aaload hx (j := j) (v := v) (by rw [eT]; exact A0.1) (State.isArrayOf_alike hZ.alike A0.2.1) hty A0.2.2 (own_in r2 h1 (List.getElem?_eq_some_iff.mp hv).1) ((own_at r2).trans hv) (g := mkF m pc Ls (.int j :: .ref a :: rest)) rfl rfl (hb hby hd) target K
theorem own_alen {target : State} (C : OwnCx p Z s m meth c own nm bytes maxL rt) (P : OwnPos p l e R s m args below meth c Z ws h0 T h cells slots)
    (F : OwnAry Z h a k ty vs) (hd : decode bytes pc = .ok (.arraylength, 1))
    (K : Steps p.tables e below (T.setTop (mkF m (pc + 1) Ls (.int vs.length.toInt32 :: rest))) target) : Steps p.tables e below (T.setTop (mkF m pc Ls (.ref a :: rest))) target := by
  obtain ⟨hx, hZs, howns, hnm, hby, hml, hret, hlk⟩ := C
  obtain ⟨locs, vm0, k0, X, hS, hk0, eT, e0, N, E0, G0⟩ := P
  have hZ : Z.Warmed39 (s.setVm vm0).vm := State.Warmed39.trans hZs hS.1
  have hown : (s.setVm vm0).vm.findClass own = some m.cls := (hS.1.alike.findClass _ _).trans howns
  obtain ⟨c0, A0, r1, r2⟩ := F
  have e1 : c0.slots.size = vs.length := by rw [← r2]; simp
  exact X.arraylength hx (by rw [eT]; exact A0.1) (State.isArrayOf_alike hZ.alike A0.2.1) (g := mkF m pc Ls (.ref a :: rest)) rfl rfl (hb hby hd) target (by rw [e1]; exact K)
theorem own_alenN {n : Nat} {target : State} (C : OwnCx p Z s m meth c own nm bytes maxL rt) (P : OwnPos p l e R s m args below meth c Z ws h0 T h cells slots)
    (F : OwnAry Z h a k ty vs) (hl : vs.length = n) (hd : decode bytes pc = .ok (.arraylength, 1))
    (K : Steps p.tables e below (T.setTop (mkF m (pc + 1) Ls (.int n.toInt32 :: rest))) target) : Steps p.tables e below (T.setTop (mkF m pc Ls (.ref a :: rest))) target :=
  own_alen C P F hd (by rw [hl]; exact K)
end Ary
end Own

theorem pd_0 : parseMethodDescriptor "([CI[BII)I" = some ⟨[(.array .char), .int, (.array .byte), .int, .int], some .int⟩ := by decide +kernel
def own_lay0 : List (String × String × String) := [("java/lang/String", "coder", "B"), ("java/lang/String", "value", "[B")]
set_option maxRecDepth 65536 in
theorem own_laid0 {Z : State} {a0 : Array Value} (hw : ∀ d ∈ tables_1, d.before a0 Z = true) : OwnLaid Z a0 "java/lang/String" own_lay0 := by
  refine ⟨?_, by decide +kernel, fun q hq => Option.isSome_iff_exists.mp (List.all_eq_true.mp (by decide +kernel : own_lay0.all (fun q => (parseFieldDescriptor q.2.2).isSome) = true) q hq)⟩
  intro q hq
  simp only [own_lay0, List.mem_cons, List.not_mem_nil, or_false] at hq
  rcases hq with rfl | rfl
  · exact Or.inr (hw _ (List.mem_of_getElem? (i := 30) rfl))
  · exact Or.inr (hw _ (List.mem_of_getElem? (i := 32) rfl))
theorem pd_1 : parseMethodDescriptor "([CII)[B" = some ⟨[(.array .char), .int, .int], some (.array .byte)⟩ := by decide +kernel
theorem pd_2 : parseMethodDescriptor "([BI)B" = some ⟨[(.array .byte), .int], some .byte⟩ := by decide +kernel
theorem pd_3 : parseMethodDescriptor "([CIILjava/lang/Void;)V" = some ⟨[(.array .char), .int, .int, (.object "java/lang/Void")], none⟩ := by decide +kernel
def own_lay1 : List (String × String × String) := [("com/example/glasshouse/glasshouse/model/CoverageRun$Branch", "member", "Ljava/lang/String;"), ("com/example/glasshouse/glasshouse/model/CoverageRun$Branch", "line", "I"), ("com/example/glasshouse/glasshouse/model/CoverageRun$Branch", "trueCount", "J"), ("com/example/glasshouse/glasshouse/model/CoverageRun$Branch", "falseCount", "J")]
set_option maxRecDepth 65536 in
theorem own_laid1 {Z : State} {a0 : Array Value} (hw : ∀ d ∈ tables_1, d.before a0 Z = true) : OwnLaid Z a0 "com/example/glasshouse/glasshouse/model/CoverageRun$Branch" own_lay1 := by
  refine ⟨?_, by decide +kernel, fun q hq => Option.isSome_iff_exists.mp (List.all_eq_true.mp (by decide +kernel : own_lay1.all (fun q => (parseFieldDescriptor q.2.2).isSome) = true) q hq)⟩
  intro q hq
  simp only [own_lay1, List.mem_cons, List.not_mem_nil, or_false] at hq
  rcases hq with rfl | rfl | rfl | rfl
  · exact Or.inr (hw _ (List.mem_of_getElem? (i := 50) rfl))
  · exact Or.inr (hw _ (List.mem_of_getElem? (i := 52) rfl))
  · exact Or.inr (hw _ (List.mem_of_getElem? (i := 54) rfl))
  · exact Or.inr (hw _ (List.mem_of_getElem? (i := 56) rfl))
theorem pd_4 : parseMethodDescriptor "()V" = some ⟨[], none⟩ := by decide +kernel
theorem own_wS {Z : State} {a0 : Array Value} (hw : ∀ d ∈ tables_1, d.before a0 Z = true) : ∀ a ∈ Bundle.stringAtoms, a.before a0 Z = true := by
  intro a ha
  simp only [Bundle.stringAtoms, List.mem_cons, List.not_mem_nil, or_false] at ha
  rcases ha with rfl | rfl | rfl | rfl | rfl | rfl | rfl
  · exact (hw _ (List.mem_of_getElem? (i := 6) rfl))
  · exact (hw _ (List.mem_of_getElem? (i := 5) rfl))
  · exact (hw _ (List.mem_of_getElem? (i := 22) rfl))
  · exact (hw _ (List.mem_of_getElem? (i := 32) rfl))
  · exact (hw _ (List.mem_of_getElem? (i := 30) rfl))
  · exact (hw _ (List.mem_of_getElem? (i := 43) rfl))
  · exact (hw _ (List.mem_of_getElem? (i := 44) rfl))
theorem pd_5 : parseMethodDescriptor "(Ljava/lang/Object;Ljava/lang/String;)Ljava/lang/Object;" = some ⟨[(.object "java/lang/Object"), (.object "java/lang/String")], some (.object "java/lang/Object")⟩ := by decide +kernel
theorem pd_6 : parseMethodDescriptor "([C)V" = some ⟨[(.array .char)], none⟩ := by decide +kernel
theorem pd_7 : parseMethodDescriptor "(Ljava/lang/String;IJJ)V" = some ⟨[(.object "java/lang/String"), .int, .long, .long], none⟩ := by decide +kernel
theorem pd_8 : parseMethodDescriptor "(JJ)J" = some ⟨[.long, .long], some .long⟩ := by decide +kernel
theorem pd_9 : parseMethodDescriptor "()Z" = some ⟨[], some .boolean⟩ := by decide +kernel
theorem d15_0 : decode jdk_52_method_21_code 0 = .ok (.iconst 0, 1) := by decide +kernel
theorem d15_1 : decode jdk_52_method_21_code 1 = .ok (.istore 5, 2) := by decide +kernel
theorem d15_3 : decode jdk_52_method_21_code 3 = .ok (.iload 5, 2) := by decide +kernel
theorem d15_5 : decode jdk_52_method_21_code 5 = .ok (.iload 4, 2) := by decide +kernel
theorem d15_7 : decode jdk_52_method_21_code 7 = .ok (.if_icmp .ge 37, 3) := by decide +kernel
theorem d15_10 : decode jdk_52_method_21_code 10 = .ok (.aload_n 0, 1) := by decide +kernel
theorem d15_11 : decode jdk_52_method_21_code 11 = .ok (.iload_n 1, 1) := by decide +kernel
theorem d15_12 : decode jdk_52_method_21_code 12 = .ok (.caload, 1) := by decide +kernel
theorem d15_13 : decode jdk_52_method_21_code 13 = .ok (.istore 6, 2) := by decide +kernel
theorem d15_15 : decode jdk_52_method_21_code 15 = .ok (.iload 6, 2) := by decide +kernel
theorem d15_17 : decode jdk_52_method_21_code 17 = .ok (.sipush 255, 3) := by decide +kernel
theorem d15_20 : decode jdk_52_method_21_code 20 = .ok (.if_icmp .le 6, 3) := by decide +kernel
theorem d15_26 : decode jdk_52_method_21_code 26 = .ok (.aload_n 2, 1) := by decide +kernel
theorem d15_27 : decode jdk_52_method_21_code 27 = .ok (.iload_n 3, 1) := by decide +kernel
theorem d15_28 : decode jdk_52_method_21_code 28 = .ok (.iload 6, 2) := by decide +kernel
theorem d15_30 : decode jdk_52_method_21_code 30 = .ok (.i2b, 1) := by decide +kernel
theorem d15_31 : decode jdk_52_method_21_code 31 = .ok (.bastore, 1) := by decide +kernel
theorem d15_32 : decode jdk_52_method_21_code 32 = .ok (.iinc 1 1, 3) := by decide +kernel
theorem d15_35 : decode jdk_52_method_21_code 35 = .ok (.iinc 3 1, 3) := by decide +kernel
theorem d15_38 : decode jdk_52_method_21_code 38 = .ok (.iinc 5 1, 3) := by decide +kernel
theorem d15_41 : decode jdk_52_method_21_code 41 = .ok (.goto (-38), 3) := by decide +kernel
theorem d15_44 : decode jdk_52_method_21_code 44 = .ok (.iload 4, 2) := by decide +kernel
theorem d15_46 : decode jdk_52_method_21_code 46 = .ok (.ireturn, 1) := by decide +kernel
theorem pn15 : plainName "java/lang/StringUTF16" = true := by first | (simp [plainName, overriddenIn]; done) | decide +kernel
theorem ef15 (m : MethodId) (va : Addr) (ba : Addr)  : entryFrame m #[(.ref va), (.int (0 : Int32)), (.ref ba), (.int (0 : Int32)), (.int (1 : Int32))] 7 = mkF m 0 #[.val (.ref va), .val (.int (0 : Int32)), .val (.ref ba), .val (.int (0 : Int32)), .val (.int (1 : Int32)), .unset, .unset] [] := by first | (simp [entryFrame, mkF, argsToLocals, Value.category]; done) | rfl
set_option maxRecDepth 65536 in
set_option maxHeartbeats 40000000 in
theorem rm15 (l : Launch) (Z : State) (a0 : Array Value) (hw : ∀ d ∈ tables_1, d.before a0 Z = true) (va : Addr) (ba : Addr) (kv kb : ClassId) (c0 : Int32) (h0 : Heap) (hE : Ext Z.heap h0) (g_ba : Z.heap.size ≤ ba) (Yv : OwnAry Z h0 va kv .char [(.int c0)]) (Yb : OwnAry Z h0 ba kb .byte [(.int (0 : Int32))]) (nvb : va ≠ ba) (q0 : ¬ (255 : Int32) < c0) :
    OwnMeets l (⟨"java/lang/StringUTF16", "compress", "([CI[BII)I"⟩ : MethodName) jdk_52_method_21_code 7 (some .int) ({ frames := 0, cells := 0, slots := 0, locals := 0 } : Room) Z [ba] #[(.ref va), (.int (0 : Int32)), (.ref ba), (.int (0 : Int32)), (.int (1 : Int32))] h0 (fun v h => v = some (.int (1 : Int32)) ∧ OwnAry Z h ba kb .byte [(.int (nar .byte (c0.toInt8.toInt32)))]) := by
  refine OwnMeets.of (plainFor_of_name pn15) hE (allS g_ba all0) ?_
  intro p e s m below meth c T C P
  have hx := C.1
  have hby := C.2.2.2.2.1
  rw [show entryFrame m #[(.ref va), (.int (0 : Int32)), (.ref ba), (.int (0 : Int32)), (.int (1 : Int32))] 7 = _ from ef15 m va ba]
  show OwnDone p e below _ (T.setTop (mkF m 0 #[.val (.ref va), .val (.int (0 : Int32)), .val (.ref ba), .val (.int (0 : Int32)), .val (.int (1 : Int32)), .unset, .unset] []))
  refine OwnDone.go (A := (T.setTop (mkF m 7 #[.val (.ref va), .val (.int (0 : Int32)), .val (.ref ba), .val (.int (0 : Int32)), .val (.int (1 : Int32)), .val (.int (0 : Int32)), .unset] [(.int (1 : Int32)), (.int (0 : Int32))]))) (fun tQ kQ => ?_) ?_
  · refine XS.iconst P.here hx rfl (hb hby d15_0) ?_
    show Steps p.tables e below (T.setTop (mkF m 1 #[.val (.ref va), .val (.int (0 : Int32)), .val (.ref ba), .val (.int (0 : Int32)), .val (.int (1 : Int32)), .unset, .unset] [(.int (0 : Int32))])) _
    refine XS.istore P.here hx rfl (hb hby d15_1) rfl (l' := #[.val (.ref va), .val (.int (0 : Int32)), .val (.ref ba), .val (.int (0 : Int32)), .val (.int (1 : Int32)), .val (.int (0 : Int32)), .unset]) rfl ?_
    show Steps p.tables e below (T.setTop (mkF m 3 #[.val (.ref va), .val (.int (0 : Int32)), .val (.ref ba), .val (.int (0 : Int32)), .val (.int (1 : Int32)), .val (.int (0 : Int32)), .unset] [])) _
    refine XS.iload P.here hx rfl (hb hby d15_3) rfl ?_
    show Steps p.tables e below (T.setTop (mkF m 5 #[.val (.ref va), .val (.int (0 : Int32)), .val (.ref ba), .val (.int (0 : Int32)), .val (.int (1 : Int32)), .val (.int (0 : Int32)), .unset] [(.int (0 : Int32))])) _
    refine XS.iload P.here hx rfl (hb hby d15_5) rfl ?_
    show Steps p.tables e below (T.setTop (mkF m 7 #[.val (.ref va), .val (.int (0 : Int32)), .val (.ref ba), .val (.int (0 : Int32)), .val (.int (1 : Int32)), .val (.int (0 : Int32)), .unset] [(.int (1 : Int32)), (.int (0 : Int32))])) _
    exact kQ
  show OwnDone p e below _ (T.setTop (mkF m 7 #[.val (.ref va), .val (.int (0 : Int32)), .val (.ref ba), .val (.int (0 : Int32)), .val (.int (1 : Int32)), .val (.int (0 : Int32)), .unset] [(.int (1 : Int32)), (.int (0 : Int32))]))
  refine OwnDone.go (A := (T.setTop (mkF m 10 #[.val (.ref va), .val (.int (0 : Int32)), .val (.ref ba), .val (.int (0 : Int32)), .val (.int (1 : Int32)), .val (.int (0 : Int32)), .unset] []))) (fun tQ kQ => XS.icmpNo P.here hx rfl (hb hby d15_7) rfl (XT.ii_ge_f (by decide)) kQ) ?_
  show OwnDone p e below _ (T.setTop (mkF m 10 #[.val (.ref va), .val (.int (0 : Int32)), .val (.ref ba), .val (.int (0 : Int32)), .val (.int (1 : Int32)), .val (.int (0 : Int32)), .unset] []))
  refine OwnDone.go (A := (T.setTop (mkF m 20 #[.val (.ref va), .val (.int (0 : Int32)), .val (.ref ba), .val (.int (0 : Int32)), .val (.int (1 : Int32)), .val (.int (0 : Int32)), .val (.int c0)] [(.int (255 : Int32)), (.int c0)]))) (fun tQ kQ => ?_) ?_
  · refine XS.aloadN P.here hx rfl (hb hby d15_10) rfl rfl ?_
    show Steps p.tables e below (T.setTop (mkF m 11 #[.val (.ref va), .val (.int (0 : Int32)), .val (.ref ba), .val (.int (0 : Int32)), .val (.int (1 : Int32)), .val (.int (0 : Int32)), .unset] [(.ref va)])) _
    refine XS.iloadN P.here hx rfl (hb hby d15_11) rfl ?_
    show Steps p.tables e below (T.setTop (mkF m 12 #[.val (.ref va), .val (.int (0 : Int32)), .val (.ref ba), .val (.int (0 : Int32)), .val (.int (1 : Int32)), .val (.int (0 : Int32)), .unset] [(.int (0 : Int32)), (.ref va)])) _
    refine own_caload C P Yv (by decide) rfl d15_12 ?_
    show Steps p.tables e below (T.setTop (mkF m 13 #[.val (.ref va), .val (.int (0 : Int32)), .val (.ref ba), .val (.int (0 : Int32)), .val (.int (1 : Int32)), .val (.int (0 : Int32)), .unset] [(.int c0)])) _
    refine XS.istore P.here hx rfl (hb hby d15_13) rfl (l' := #[.val (.ref va), .val (.int (0 : Int32)), .val (.ref ba), .val (.int (0 : Int32)), .val (.int (1 : Int32)), .val (.int (0 : Int32)), .val (.int c0)]) rfl ?_
    show Steps p.tables e below (T.setTop (mkF m 15 #[.val (.ref va), .val (.int (0 : Int32)), .val (.ref ba), .val (.int (0 : Int32)), .val (.int (1 : Int32)), .val (.int (0 : Int32)), .val (.int c0)] [])) _
    refine XS.iload P.here hx rfl (hb hby d15_15) rfl ?_
    show Steps p.tables e below (T.setTop (mkF m 17 #[.val (.ref va), .val (.int (0 : Int32)), .val (.ref ba), .val (.int (0 : Int32)), .val (.int (1 : Int32)), .val (.int (0 : Int32)), .val (.int c0)] [(.int c0)])) _
    refine XS.sipush P.here hx rfl (hb hby d15_17) ?_
    show Steps p.tables e below (T.setTop (mkF m 20 #[.val (.ref va), .val (.int (0 : Int32)), .val (.ref ba), .val (.int (0 : Int32)), .val (.int (1 : Int32)), .val (.int (0 : Int32)), .val (.int c0)] [(.int (255 : Int32)), (.int c0)])) _
    exact kQ
  show OwnDone p e below _ (T.setTop (mkF m 20 #[.val (.ref va), .val (.int (0 : Int32)), .val (.ref ba), .val (.int (0 : Int32)), .val (.int (1 : Int32)), .val (.int (0 : Int32)), .val (.int c0)] [(.int (255 : Int32)), (.int c0)]))
  refine OwnDone.go (A := (T.setTop (mkF m 26 #[.val (.ref va), .val (.int (0 : Int32)), .val (.ref ba), .val (.int (0 : Int32)), .val (.int (1 : Int32)), .val (.int (0 : Int32)), .val (.int c0)] []))) (fun tQ kQ => XS.icmpYes P.here hx rfl (pc0 := 20) (pc' := 26) rfl (hb hby d15_20) rfl (XT.ii_le_t q0) (by decide) (by decide) kQ) ?_
  show OwnDone p e below _ (T.setTop (mkF m 26 #[.val (.ref va), .val (.int (0 : Int32)), .val (.ref ba), .val (.int (0 : Int32)), .val (.int (1 : Int32)), .val (.int (0 : Int32)), .val (.int c0)] []))
  refine OwnDone.go (A := (T.setTop (mkF m 31 #[.val (.ref va), .val (.int (0 : Int32)), .val (.ref ba), .val (.int (0 : Int32)), .val (.int (1 : Int32)), .val (.int (0 : Int32)), .val (.int c0)] [(.int (c0.toInt8.toInt32)), (.int (0 : Int32)), (.ref ba)]))) (fun tQ kQ => ?_) ?_
  · refine XS.aloadN P.here hx rfl (hb hby d15_26) rfl rfl ?_
    show Steps p.tables e below (T.setTop (mkF m 27 #[.val (.ref va), .val (.int (0 : Int32)), .val (.ref ba), .val (.int (0 : Int32)), .val (.int (1 : Int32)), .val (.int (0 : Int32)), .val (.int c0)] [(.ref ba)])) _
    refine XS.iloadN P.here hx rfl (hb hby d15_27) rfl ?_
    show Steps p.tables e below (T.setTop (mkF m 28 #[.val (.ref va), .val (.int (0 : Int32)), .val (.ref ba), .val (.int (0 : Int32)), .val (.int (1 : Int32)), .val (.int (0 : Int32)), .val (.int c0)] [(.int (0 : Int32)), (.ref ba)])) _
    refine XS.iload P.here hx rfl (hb hby d15_28) rfl ?_
    show Steps p.tables e below (T.setTop (mkF m 30 #[.val (.ref va), .val (.int (0 : Int32)), .val (.ref ba), .val (.int (0 : Int32)), .val (.int (1 : Int32)), .val (.int (0 : Int32)), .val (.int c0)] [(.int c0), (.int (0 : Int32)), (.ref ba)])) _
    refine XT.i2b P.here hx rfl (hb hby d15_30) rfl ?_
    show Steps p.tables e below (T.setTop (mkF m 31 #[.val (.ref va), .val (.int (0 : Int32)), .val (.ref ba), .val (.int (0 : Int32)), .val (.int (1 : Int32)), .val (.int (0 : Int32)), .val (.int c0)] [(.int (c0.toInt8.toInt32)), (.int (0 : Int32)), (.ref ba)])) _
    exact kQ
  show OwnDone p e below _ (T.setTop (mkF m 31 #[.val (.ref va), .val (.int (0 : Int32)), .val (.ref ba), .val (.int (0 : Int32)), .val (.int (1 : Int32)), .val (.int (0 : Int32)), .val (.int c0)] [(.int (c0.toInt8.toInt32)), (.int (0 : Int32)), (.ref ba)]))
  refine own_bastore C P Yb (by decide) (show ((0 : Int32) : Int32).toNatClampNeg < 1 from by decide) (Or.inl (List.mem_of_getElem? (i := 0) rfl)) d15_31 (vs' := [(.int (nar .byte (c0.toInt8.toInt32)))]) rfl (fun T1 h1 P1 K1 Y1 => ?_)
  have Y2_va := Yv.keep K1 (ninS nvb nin0)
  show OwnDone p e below _ (T1.setTop (mkF m 32 #[.val (.ref va), .val (.int (0 : Int32)), .val (.ref ba), .val (.int (0 : Int32)), .val (.int (1 : Int32)), .val (.int (0 : Int32)), .val (.int c0)] []))
  refine OwnDone.go (A := (T1.setTop (mkF m 7 #[.val (.ref va), .val (.int (1 : Int32)), .val (.ref ba), .val (.int (1 : Int32)), .val (.int (1 : Int32)), .val (.int (1 : Int32)), .val (.int c0)] [(.int (1 : Int32)), (.int (1 : Int32))]))) (fun tQ kQ => ?_) ?_
  · refine XS.iinc P1.here hx rfl (hb hby d15_32) rfl (l' := #[.val (.ref va), .val (.int (1 : Int32)), .val (.ref ba), .val (.int (0 : Int32)), .val (.int (1 : Int32)), .val (.int (0 : Int32)), .val (.int c0)]) rfl ?_
    show Steps p.tables e below (T1.setTop (mkF m 35 #[.val (.ref va), .val (.int (1 : Int32)), .val (.ref ba), .val (.int (0 : Int32)), .val (.int (1 : Int32)), .val (.int (0 : Int32)), .val (.int c0)] [])) _
    refine XS.iinc P1.here hx rfl (hb hby d15_35) rfl (l' := #[.val (.ref va), .val (.int (1 : Int32)), .val (.ref ba), .val (.int (1 : Int32)), .val (.int (1 : Int32)), .val (.int (0 : Int32)), .val (.int c0)]) rfl ?_
    show Steps p.tables e below (T1.setTop (mkF m 38 #[.val (.ref va), .val (.int (1 : Int32)), .val (.ref ba), .val (.int (1 : Int32)), .val (.int (1 : Int32)), .val (.int (0 : Int32)), .val (.int c0)] [])) _
    refine XS.iinc P1.here hx rfl (hb hby d15_38) rfl (l' := #[.val (.ref va), .val (.int (1 : Int32)), .val (.ref ba), .val (.int (1 : Int32)), .val (.int (1 : Int32)), .val (.int (1 : Int32)), .val (.int c0)]) rfl ?_
    show Steps p.tables e below (T1.setTop (mkF m 41 #[.val (.ref va), .val (.int (1 : Int32)), .val (.ref ba), .val (.int (1 : Int32)), .val (.int (1 : Int32)), .val (.int (1 : Int32)), .val (.int c0)] [])) _
    refine XS.goto P1.here hx rfl (pc0 := 41) (pc' := 3) rfl (hb hby d15_41) (by decide) (by decide) ?_
    show Steps p.tables e below (T1.setTop (mkF m 3 #[.val (.ref va), .val (.int (1 : Int32)), .val (.ref ba), .val (.int (1 : Int32)), .val (.int (1 : Int32)), .val (.int (1 : Int32)), .val (.int c0)] [])) _
    refine XS.iload P1.here hx rfl (hb hby d15_3) rfl ?_
    show Steps p.tables e below (T1.setTop (mkF m 5 #[.val (.ref va), .val (.int (1 : Int32)), .val (.ref ba), .val (.int (1 : Int32)), .val (.int (1 : Int32)), .val (.int (1 : Int32)), .val (.int c0)] [(.int (1 : Int32))])) _
    refine XS.iload P1.here hx rfl (hb hby d15_5) rfl ?_
    show Steps p.tables e below (T1.setTop (mkF m 7 #[.val (.ref va), .val (.int (1 : Int32)), .val (.ref ba), .val (.int (1 : Int32)), .val (.int (1 : Int32)), .val (.int (1 : Int32)), .val (.int c0)] [(.int (1 : Int32)), (.int (1 : Int32))])) _
    exact kQ
  show OwnDone p e below _ (T1.setTop (mkF m 7 #[.val (.ref va), .val (.int (1 : Int32)), .val (.ref ba), .val (.int (1 : Int32)), .val (.int (1 : Int32)), .val (.int (1 : Int32)), .val (.int c0)] [(.int (1 : Int32)), (.int (1 : Int32))]))
  refine OwnDone.go (A := (T1.setTop (mkF m 44 #[.val (.ref va), .val (.int (1 : Int32)), .val (.ref ba), .val (.int (1 : Int32)), .val (.int (1 : Int32)), .val (.int (1 : Int32)), .val (.int c0)] []))) (fun tQ kQ => XS.icmpYes P1.here hx rfl (pc0 := 7) (pc' := 44) rfl (hb hby d15_7) rfl (XT.ii_ge_t (by decide)) (by decide) (by decide) kQ) ?_
  show OwnDone p e below _ (T1.setTop (mkF m 44 #[.val (.ref va), .val (.int (1 : Int32)), .val (.ref ba), .val (.int (1 : Int32)), .val (.int (1 : Int32)), .val (.int (1 : Int32)), .val (.int c0)] []))
  refine OwnDone.go (A := (T1.setTop (mkF m 46 #[.val (.ref va), .val (.int (1 : Int32)), .val (.ref ba), .val (.int (1 : Int32)), .val (.int (1 : Int32)), .val (.int (1 : Int32)), .val (.int c0)] [(.int (1 : Int32))]))) (fun tQ kQ => ?_) ?_
  · refine XS.iload P1.here hx rfl (hb hby d15_44) rfl ?_
    show Steps p.tables e below (T1.setTop (mkF m 46 #[.val (.ref va), .val (.int (1 : Int32)), .val (.ref ba), .val (.int (1 : Int32)), .val (.int (1 : Int32)), .val (.int (1 : Int32)), .val (.int c0)] [(.int (1 : Int32))])) _
    exact kQ
  show OwnDone p e below _ (T1.setTop (mkF m 46 #[.val (.ref va), .val (.int (1 : Int32)), .val (.ref ba), .val (.int (1 : Int32)), .val (.int (1 : Int32)), .val (.int (1 : Int32)), .val (.int c0)] [(.int (1 : Int32))]))
  refine own_retI C P1 d15_46 (by decide) (by decide) ⟨rfl, Y1⟩
theorem d13_0 : decode jdk_52_method_16_code 0 = .ok (.iload_n 2, 1) := by decide +kernel
theorem d13_1 : decode jdk_52_method_16_code 1 = .ok (.newarray .byte, 2) := by decide +kernel
theorem d13_3 : decode jdk_52_method_16_code 3 = .ok (.astore_n 3, 1) := by decide +kernel
theorem d13_4 : decode jdk_52_method_16_code 4 = .ok (.aload_n 0, 1) := by decide +kernel
theorem d13_5 : decode jdk_52_method_16_code 5 = .ok (.iload_n 1, 1) := by decide +kernel
theorem d13_6 : decode jdk_52_method_16_code 6 = .ok (.aload_n 3, 1) := by decide +kernel
theorem d13_7 : decode jdk_52_method_16_code 7 = .ok (.iconst 0, 1) := by decide +kernel
theorem d13_8 : decode jdk_52_method_16_code 8 = .ok (.iload_n 2, 1) := by decide +kernel
theorem d13_9 : decode jdk_52_method_16_code 9 = .ok (.invokestatic 115, 3) := by decide +kernel
theorem d13_12 : decode jdk_52_method_16_code 12 = .ok (.istore 4, 2) := by decide +kernel
theorem d13_14 : decode jdk_52_method_16_code 14 = .ok (.iload 4, 2) := by decide +kernel
theorem d13_16 : decode jdk_52_method_16_code 16 = .ok (.iload_n 2, 1) := by decide +kernel
theorem d13_17 : decode jdk_52_method_16_code 17 = .ok (.if_icmp .eq 40, 3) := by decide +kernel
theorem d13_57 : decode jdk_52_method_16_code 57 = .ok (.aload_n 3, 1) := by decide +kernel
theorem d13_58 : decode jdk_52_method_16_code 58 = .ok (.areturn, 1) := by decide +kernel
theorem pn13 : plainName "java/lang/StringUTF16" = true := by first | (simp [plainName, overriddenIn]; done) | decide +kernel
theorem ef13 (m : MethodId) (va : Addr)  : entryFrame m #[(.ref va), (.int (0 : Int32)), (.int (1 : Int32))] 6 = mkF m 0 #[.val (.ref va), .val (.int (0 : Int32)), .val (.int (1 : Int32)), .unset, .unset, .unset] [] := by first | (simp [entryFrame, mkF, argsToLocals, Value.category]; done) | rfl
set_option maxRecDepth 65536 in
set_option maxHeartbeats 40000000 in
theorem rm13 (l : Launch) (Z : State) (a0 : Array Value) (hw : ∀ d ∈ tables_1, d.before a0 Z = true) (va : Addr) (kv : ClassId) (c0 : Int32) (h0 : Heap) (hE : Ext Z.heap h0)  (Yv : OwnAry Z h0 va kv .char [(.int c0)]) (q0 : ¬ (255 : Int32) < c0) :
    OwnMeets l (⟨"java/lang/StringUTF16", "compress", "([CII)[B"⟩ : MethodName) jdk_52_method_16_code 6 (some (.array .byte)) ({ frames := 1, cells := 1, slots := 1, locals := 18 } : Room) Z [] #[(.ref va), (.int (0 : Int32)), (.int (1 : Int32))] h0 (fun v h => ∃ b kb, v = some (.ref b) ∧ OwnAry Z h b kb .byte [(.int (nar .byte (c0.toInt8.toInt32)))] ∧ h0.size ≤ b) := by
  refine OwnMeets.of (plainFor_of_name pn13) hE all0 ?_
  intro p e s m below meth c T C P
  have hx := C.1
  have hby := C.2.2.2.2.1
  rw [show entryFrame m #[(.ref va), (.int (0 : Int32)), (.int (1 : Int32))] 6 = _ from ef13 m va]
  show OwnDone p e below _ (T.setTop (mkF m 0 #[.val (.ref va), .val (.int (0 : Int32)), .val (.int (1 : Int32)), .unset, .unset, .unset] []))
  refine OwnDone.go (A := (T.setTop (mkF m 1 #[.val (.ref va), .val (.int (0 : Int32)), .val (.int (1 : Int32)), .unset, .unset, .unset] [(.int (1 : Int32))]))) (fun tQ kQ => ?_) ?_
  · refine XS.iloadN P.here hx rfl (hb hby d13_0) rfl ?_
    show Steps p.tables e below (T.setTop (mkF m 1 #[.val (.ref va), .val (.int (0 : Int32)), .val (.int (1 : Int32)), .unset, .unset, .unset] [(.int (1 : Int32))])) _
    exact kQ
  show OwnDone p e below _ (T.setTop (mkF m 1 #[.val (.ref va), .val (.int (0 : Int32)), .val (.int (1 : Int32)), .unset, .unset, .unset] [(.int (1 : Int32))]))
  refine own_newP (aty := .byte) (n := (1 : Int32)) (cap := 1) (vs := [(.int (0 : Int32))]) C P (hw _ (List.mem_of_getElem? (i := 22) rfl)) d13_1 (by decide) (by decide) (by decide) (by decide +kernel) rfl (by decide) (by decide) (fun T1 h1 a1 k1 ga1 la1 P1 K1 Y1 N1 => ?_)
  have ge_a1 : h0.size ≤ a1 := by rw [ga1]; exact P.keep.1
  have ne_va_a1 : va ≠ a1 := by rw [ga1]; exact Nat.ne_of_lt Yv.lt
  have Y2_va := Yv.keep K1 nin0
  have Y1 : OwnAry Z h1 a1 k1 .byte [(.int (0 : Int32))] := Y1
  show OwnDone p e below _ (T1.setTop (mkF m 3 #[.val (.ref va), .val (.int (0 : Int32)), .val (.int (1 : Int32)), .unset, .unset, .unset] [(.ref a1)]))
  refine OwnDone.go (A := (T1.setTop (mkF m 9 #[.val (.ref va), .val (.int (0 : Int32)), .val (.int (1 : Int32)), .val (.ref a1), .unset, .unset] [(.int (1 : Int32)), (.int (0 : Int32)), (.ref a1), (.int (0 : Int32)), (.ref va)]))) (fun tQ kQ => ?_) ?_
  · refine XS.astoreN P1.here hx rfl (hb hby d13_3) rfl rfl (l' := #[.val (.ref va), .val (.int (0 : Int32)), .val (.int (1 : Int32)), .val (.ref a1), .unset, .unset]) rfl ?_
    show Steps p.tables e below (T1.setTop (mkF m 4 #[.val (.ref va), .val (.int (0 : Int32)), .val (.int (1 : Int32)), .val (.ref a1), .unset, .unset] [])) _
    refine XS.aloadN P1.here hx rfl (hb hby d13_4) rfl rfl ?_
    show Steps p.tables e below (T1.setTop (mkF m 5 #[.val (.ref va), .val (.int (0 : Int32)), .val (.int (1 : Int32)), .val (.ref a1), .unset, .unset] [(.ref va)])) _
    refine XS.iloadN P1.here hx rfl (hb hby d13_5) rfl ?_
    show Steps p.tables e below (T1.setTop (mkF m 6 #[.val (.ref va), .val (.int (0 : Int32)), .val (.int (1 : Int32)), .val (.ref a1), .unset, .unset] [(.int (0 : Int32)), (.ref va)])) _
    refine XS.aloadN P1.here hx rfl (hb hby d13_6) rfl rfl ?_
    show Steps p.tables e below (T1.setTop (mkF m 7 #[.val (.ref va), .val (.int (0 : Int32)), .val (.int (1 : Int32)), .val (.ref a1), .unset, .unset] [(.ref a1), (.int (0 : Int32)), (.ref va)])) _
    refine XS.iconst P1.here hx rfl (hb hby d13_7) ?_
    show Steps p.tables e below (T1.setTop (mkF m 8 #[.val (.ref va), .val (.int (0 : Int32)), .val (.int (1 : Int32)), .val (.ref a1), .unset, .unset] [(.int (0 : Int32)), (.ref a1), (.int (0 : Int32)), (.ref va)])) _
    refine XS.iloadN P1.here hx rfl (hb hby d13_8) rfl ?_
    show Steps p.tables e below (T1.setTop (mkF m 9 #[.val (.ref va), .val (.int (0 : Int32)), .val (.int (1 : Int32)), .val (.ref a1), .unset, .unset] [(.int (1 : Int32)), (.int (0 : Int32)), (.ref a1), (.int (0 : Int32)), (.ref va)])) _
    exact kQ
  show OwnDone p e below _ (T1.setTop (mkF m 9 #[.val (.ref va), .val (.int (0 : Int32)), .val (.int (1 : Int32)), .val (.ref a1), .unset, .unset] [(.int (1 : Int32)), (.int (0 : Int32)), (.ref a1), (.int (0 : Int32)), (.ref va)]))
  refine own_callS (y := (⟨"java/lang/StringUTF16", "compress", "([CI[BII)I"⟩ : MethodName)) C P1 (hw _ (List.mem_of_getElem? (i := 23) rfl)) (hw _ (List.mem_of_getElem? (i := 24) rfl)) (hw _ (List.mem_of_getElem? (i := 20) rfl)) (hw _ (List.mem_of_getElem? (i := 25) rfl)) (by decide) (rm15 l Z a0 hw va a1 kv k1 c0 h1 P1.old (Nat.le_trans hE.1 ge_a1) Y2_va Y1 ne_va_a1 q0) (as := [(.ref va), (.int (0 : Int32)), (.ref a1), (.int (0 : Int32)), (.int (1 : Int32))]) (rest := []) pd_0 rfl rfl (wd := 0) rfl rfl d13_9 (allS (Or.inr ge_a1) all0) (by decide) (by decide) (by decide) (by decide) (fun T3 h3 v3 P3 K3 hQ3 => ?_)
  obtain ⟨rfl, Y3⟩ := hQ3
  have Y4_va := Y2_va.keep K3 (ninS ne_va_a1 nin0)
  show OwnDone p e below _ (T3.setTop (mkF m 12 #[.val (.ref va), .val (.int (0 : Int32)), .val (.int (1 : Int32)), .val (.ref a1), .unset, .unset] [(.int (1 : Int32))]))
  refine OwnDone.go (A := (T3.setTop (mkF m 17 #[.val (.ref va), .val (.int (0 : Int32)), .val (.int (1 : Int32)), .val (.ref a1), .val (.int (1 : Int32)), .unset] [(.int (1 : Int32)), (.int (1 : Int32))]))) (fun tQ kQ => ?_) ?_
  · refine XS.istore P3.here hx rfl (hb hby d13_12) rfl (l' := #[.val (.ref va), .val (.int (0 : Int32)), .val (.int (1 : Int32)), .val (.ref a1), .val (.int (1 : Int32)), .unset]) rfl ?_
    show Steps p.tables e below (T3.setTop (mkF m 14 #[.val (.ref va), .val (.int (0 : Int32)), .val (.int (1 : Int32)), .val (.ref a1), .val (.int (1 : Int32)), .unset] [])) _
    refine XS.iload P3.here hx rfl (hb hby d13_14) rfl ?_
    show Steps p.tables e below (T3.setTop (mkF m 16 #[.val (.ref va), .val (.int (0 : Int32)), .val (.int (1 : Int32)), .val (.ref a1), .val (.int (1 : Int32)), .unset] [(.int (1 : Int32))])) _
    refine XS.iloadN P3.here hx rfl (hb hby d13_16) rfl ?_
    show Steps p.tables e below (T3.setTop (mkF m 17 #[.val (.ref va), .val (.int (0 : Int32)), .val (.int (1 : Int32)), .val (.ref a1), .val (.int (1 : Int32)), .unset] [(.int (1 : Int32)), (.int (1 : Int32))])) _
    exact kQ
  show OwnDone p e below _ (T3.setTop (mkF m 17 #[.val (.ref va), .val (.int (0 : Int32)), .val (.int (1 : Int32)), .val (.ref a1), .val (.int (1 : Int32)), .unset] [(.int (1 : Int32)), (.int (1 : Int32))]))
  refine OwnDone.go (A := (T3.setTop (mkF m 57 #[.val (.ref va), .val (.int (0 : Int32)), .val (.int (1 : Int32)), .val (.ref a1), .val (.int (1 : Int32)), .unset] []))) (fun tQ kQ => XS.icmpYes P3.here hx rfl (pc0 := 17) (pc' := 57) rfl (hb hby d13_17) rfl (XT.ii_eq_t rfl) (by decide) (by decide) kQ) ?_
  show OwnDone p e below _ (T3.setTop (mkF m 57 #[.val (.ref va), .val (.int (0 : Int32)), .val (.int (1 : Int32)), .val (.ref a1), .val (.int (1 : Int32)), .unset] []))
  refine OwnDone.go (A := (T3.setTop (mkF m 58 #[.val (.ref va), .val (.int (0 : Int32)), .val (.int (1 : Int32)), .val (.ref a1), .val (.int (1 : Int32)), .unset] [(.ref a1)]))) (fun tQ kQ => ?_) ?_
  · refine XS.aloadN P3.here hx rfl (hb hby d13_57) rfl rfl ?_
    show Steps p.tables e below (T3.setTop (mkF m 58 #[.val (.ref va), .val (.int (0 : Int32)), .val (.int (1 : Int32)), .val (.ref a1), .val (.int (1 : Int32)), .unset] [(.ref a1)])) _
    exact kQ
  show OwnDone p e below _ (T3.setTop (mkF m 58 #[.val (.ref va), .val (.int (0 : Int32)), .val (.int (1 : Int32)), .val (.ref a1), .val (.int (1 : Int32)), .unset] [(.ref a1)]))
  refine own_retA C P3 rfl rfl d13_58 (by decide) (by decide) ⟨_, _, rfl, Y3, ge_a1⟩
theorem d14_0 : decode jdk_52_method_15_code 0 = .ok (.iload_n 1, 1) := by decide +kernel
theorem d14_1 : decode jdk_52_method_15_code 1 = .ok (.aload_n 0, 1) := by decide +kernel
theorem d14_2 : decode jdk_52_method_15_code 2 = .ok (.arraylength, 1) := by decide +kernel
theorem d14_3 : decode jdk_52_method_15_code 3 = .ok (.isub, 1) := by decide +kernel
theorem d14_4 : decode jdk_52_method_15_code 4 = .ok (.bipush 31, 2) := by decide +kernel
theorem d14_6 : decode jdk_52_method_15_code 6 = .ok (.iushr, 1) := by decide +kernel
theorem d14_7 : decode jdk_52_method_15_code 7 = .ok (.i2b, 1) := by decide +kernel
theorem d14_8 : decode jdk_52_method_15_code 8 = .ok (.ireturn, 1) := by decide +kernel
theorem pn14 : plainName "java/lang/StringUTF16" = true := by first | (simp [plainName, overriddenIn]; done) | decide +kernel
theorem ef14 (m : MethodId) (ba : Addr)  : entryFrame m #[(.ref ba), (.int (1 : Int32))] 2 = mkF m 0 #[.val (.ref ba), .val (.int (1 : Int32))] [] := by first | (simp [entryFrame, mkF, argsToLocals, Value.category]; done) | rfl
set_option maxRecDepth 65536 in
set_option maxHeartbeats 40000000 in
theorem rm14 (l : Launch) (Z : State) (a0 : Array Value) (hw : ∀ d ∈ tables_1, d.before a0 Z = true) (ba : Addr) (kb : ClassId) (x0 : Int32) (h0 : Heap) (hE : Ext Z.heap h0)  (Yb : OwnAry Z h0 ba kb .byte [(.int x0)]) :
    OwnMeets l (⟨"java/lang/StringUTF16", "coderFromArrayLen", "([BI)B"⟩ : MethodName) jdk_52_method_15_code 2 (some .byte) ({ frames := 0, cells := 0, slots := 0, locals := 0 } : Room) Z [] #[(.ref ba), (.int (1 : Int32))] h0 (fun v h => v = some (.int 0) ∧ h0 = h) := by
  refine OwnMeets.of (plainFor_of_name pn14) hE all0 ?_
  intro p e s m below meth c T C P
  have hx := C.1
  have hby := C.2.2.2.2.1
  rw [show entryFrame m #[(.ref ba), (.int (1 : Int32))] 2 = _ from ef14 m ba]
  show OwnDone p e below _ (T.setTop (mkF m 0 #[.val (.ref ba), .val (.int (1 : Int32))] []))
  refine OwnDone.go (A := (T.setTop (mkF m 8 #[.val (.ref ba), .val (.int (1 : Int32))] [(.int ((XT.ushr (0 : Int32) (31 : Int32)).toInt8.toInt32))]))) (fun tQ kQ => ?_) ?_
  · refine XS.iloadN P.here hx rfl (hb hby d14_0) rfl ?_
    show Steps p.tables e below (T.setTop (mkF m 1 #[.val (.ref ba), .val (.int (1 : Int32))] [(.int (1 : Int32))])) _
    refine XS.aloadN P.here hx rfl (hb hby d14_1) rfl rfl ?_
    show Steps p.tables e below (T.setTop (mkF m 2 #[.val (.ref ba), .val (.int (1 : Int32))] [(.ref ba), (.int (1 : Int32))])) _
    refine own_alen C P Yb d14_2 ?_
    show Steps p.tables e below (T.setTop (mkF m 3 #[.val (.ref ba), .val (.int (1 : Int32))] [(.int (1 : Int32)), (.int (1 : Int32))])) _
    refine XS.isub P.here hx rfl (hb hby d14_3) rfl ?_
    show Steps p.tables e below (T.setTop (mkF m 4 #[.val (.ref ba), .val (.int (1 : Int32))] [(.int (0 : Int32))])) _
    refine XS.bipush P.here hx rfl (hb hby d14_4) ?_
    show Steps p.tables e below (T.setTop (mkF m 6 #[.val (.ref ba), .val (.int (1 : Int32))] [(.int (31 : Int32)), (.int (0 : Int32))])) _
    refine XT.iushr P.here hx rfl (hb hby d14_6) rfl ?_
    show Steps p.tables e below (T.setTop (mkF m 7 #[.val (.ref ba), .val (.int (1 : Int32))] [(.int (XT.ushr (0 : Int32) (31 : Int32)))])) _
    refine XT.i2b P.here hx rfl (hb hby d14_7) rfl ?_
    show Steps p.tables e below (T.setTop (mkF m 8 #[.val (.ref ba), .val (.int (1 : Int32))] [(.int ((XT.ushr (0 : Int32) (31 : Int32)).toInt8.toInt32))])) _
    exact kQ
  show OwnDone p e below _ (T.setTop (mkF m 8 #[.val (.ref ba), .val (.int (1 : Int32))] [(.int ((XT.ushr (0 : Int32) (31 : Int32)).toInt8.toInt32))]))
  refine own_retN C P (by simp) (z' := (0 : Int32)) (by decide) d14_8 (by decide) (by decide) ⟨rfl, rfl⟩
theorem d12_0 : decode jdk_42_method_149_code 0 = .ok (.aload_n 0, 1) := by decide +kernel
theorem d12_1 : decode jdk_42_method_149_code 1 = .ok (.invokespecial 1, 3) := by decide +kernel
theorem d12_4 : decode jdk_42_method_149_code 4 = .ok (.iload_n 3, 1) := by decide +kernel
theorem d12_5 : decode jdk_42_method_149_code 5 = .ok (.ifCond .ne 22, 3) := by decide +kernel
theorem d12_27 : decode jdk_42_method_149_code 27 = .ok (.getstatic 38, 3) := by decide +kernel
theorem d12_30 : decode jdk_42_method_149_code 30 = .ok (.ifCond .eq 28, 3) := by decide +kernel
theorem d12_33 : decode jdk_42_method_149_code 33 = .ok (.aload_n 1, 1) := by decide +kernel
theorem d12_34 : decode jdk_42_method_149_code 34 = .ok (.iload_n 2, 1) := by decide +kernel
theorem d12_35 : decode jdk_42_method_149_code 35 = .ok (.iload_n 3, 1) := by decide +kernel
theorem d12_36 : decode jdk_42_method_149_code 36 = .ok (.invokestatic 177, 3) := by decide +kernel
theorem d12_39 : decode jdk_42_method_149_code 39 = .ok (.astore 5, 2) := by decide +kernel
theorem d12_41 : decode jdk_42_method_149_code 41 = .ok (.aload_n 0, 1) := by decide +kernel
theorem d12_42 : decode jdk_42_method_149_code 42 = .ok (.aload 5, 2) := by decide +kernel
theorem d12_44 : decode jdk_42_method_149_code 44 = .ok (.iload_n 3, 1) := by decide +kernel
theorem d12_45 : decode jdk_42_method_149_code 45 = .ok (.invokestatic 47, 3) := by decide +kernel
theorem d12_48 : decode jdk_42_method_149_code 48 = .ok (.putfield 15, 3) := by decide +kernel
theorem d12_51 : decode jdk_42_method_149_code 51 = .ok (.aload_n 0, 1) := by decide +kernel
theorem d12_52 : decode jdk_42_method_149_code 52 = .ok (.aload 5, 2) := by decide +kernel
theorem d12_54 : decode jdk_42_method_149_code 54 = .ok (.putfield 9, 3) := by decide +kernel
theorem d12_57 : decode jdk_42_method_149_code 57 = .ok (.return_, 1) := by decide +kernel
theorem pn12 : plainName "java/lang/String" = true := by first | (simp [plainName, overriddenIn]; done) | decide +kernel
theorem ef12 (m : MethodId) (a1 : Addr) (va : Addr)  : entryFrame m #[(.ref a1), (.ref va), (.int (0 : Int32)), (.int (1 : Int32)), .null] 6 = mkF m 0 #[.val (.ref a1), .val (.ref va), .val (.int (0 : Int32)), .val (.int (1 : Int32)), .val .null, .unset] [] := by first | (simp [entryFrame, mkF, argsToLocals, Value.category]; done) | rfl
set_option maxRecDepth 65536 in
set_option maxHeartbeats 40000000 in
theorem rm12 (l : Launch) (Z : State) (a0 : Array Value) (hw : ∀ d ∈ tables_1, d.before a0 Z = true) (a1 : Addr) (va : Addr) (kv : ClassId) (c0 : Int32) (h0 : Heap) (hE : Ext Z.heap h0) (g_a1 : Z.heap.size ≤ a1) (O1 : OwnObj Z h0 a1 "java/lang/String" own_lay0 [(.int (0 : Int32)), .null]) (Yv : OwnAry Z h0 va kv .char [(.int c0)]) (nav : a1 ≠ va) (q0 : ¬ (255 : Int32) < c0) (cs : Int32) (C0 : Sta Z Z.heap "java/lang/String" "COMPACT_STRINGS" "Z" (.int cs)) (C1 : ¬ cs = 0) :
    OwnMeets l (⟨"java/lang/String", "<init>", "([CIILjava/lang/Void;)V"⟩ : MethodName) jdk_42_method_149_code 6 none ({ frames := 2, cells := 1, slots := 1, locals := 35 } : Room) Z [a1] #[(.ref a1), (.ref va), (.int (0 : Int32)), (.int (1 : Int32)), .null] h0 (fun v h => v = none) := by
  refine OwnMeets.of (plainFor_of_name pn12) hE (allS g_a1 all0) ?_
  intro p e s m below meth c T C P
  have hx := C.1
  have hby := C.2.2.2.2.1
  rw [show entryFrame m #[(.ref a1), (.ref va), (.int (0 : Int32)), (.int (1 : Int32)), .null] 6 = _ from ef12 m a1 va]
  show OwnDone p e below _ (T.setTop (mkF m 0 #[.val (.ref a1), .val (.ref va), .val (.int (0 : Int32)), .val (.int (1 : Int32)), .val .null, .unset] []))
  refine OwnDone.go (A := (T.setTop (mkF m 1 #[.val (.ref a1), .val (.ref va), .val (.int (0 : Int32)), .val (.int (1 : Int32)), .val .null, .unset] [(.ref a1)]))) (fun tQ kQ => ?_) ?_
  · refine XS.aloadN P.here hx rfl (hb hby d12_0) rfl rfl ?_
    show Steps p.tables e below (T.setTop (mkF m 1 #[.val (.ref a1), .val (.ref va), .val (.int (0 : Int32)), .val (.int (1 : Int32)), .val .null, .unset] [(.ref a1)])) _
    exact kQ
  show OwnDone p e below _ (T.setTop (mkF m 1 #[.val (.ref a1), .val (.ref va), .val (.int (0 : Int32)), .val (.int (1 : Int32)), .val .null, .unset] [(.ref a1)]))
  refine own_initO (wd := 0) (rest := []) C P (hw _ (List.mem_of_getElem? (i := 14) rfl)) (hw _ (List.mem_of_getElem? (i := 15) rfl)) (hw _ (List.mem_of_getElem? (i := 16) rfl)) rfl rfl d12_1 (by decide) (by decide) (fun T1 P1 => ?_)
  show OwnDone p e below _ (T1.setTop (mkF m 4 #[.val (.ref a1), .val (.ref va), .val (.int (0 : Int32)), .val (.int (1 : Int32)), .val .null, .unset] []))
  refine OwnDone.go (A := (T1.setTop (mkF m 5 #[.val (.ref a1), .val (.ref va), .val (.int (0 : Int32)), .val (.int (1 : Int32)), .val .null, .unset] [(.int (1 : Int32))]))) (fun tQ kQ => ?_) ?_
  · refine XS.iloadN P1.here hx rfl (hb hby d12_4) rfl ?_
    show Steps p.tables e below (T1.setTop (mkF m 5 #[.val (.ref a1), .val (.ref va), .val (.int (0 : Int32)), .val (.int (1 : Int32)), .val .null, .unset] [(.int (1 : Int32))])) _
    exact kQ
  show OwnDone p e below _ (T1.setTop (mkF m 5 #[.val (.ref a1), .val (.ref va), .val (.int (0 : Int32)), .val (.int (1 : Int32)), .val .null, .unset] [(.int (1 : Int32))]))
  refine OwnDone.go (A := (T1.setTop (mkF m 27 #[.val (.ref a1), .val (.ref va), .val (.int (0 : Int32)), .val (.int (1 : Int32)), .val .null, .unset] []))) (fun tQ kQ => XS.ifYes P1.here hx rfl (pc0 := 5) (pc' := 27) rfl (hb hby d12_5) rfl (XT.i0_ne_t (by decide)) (by decide) (by decide) kQ) ?_
  show OwnDone p e below _ (T1.setTop (mkF m 27 #[.val (.ref a1), .val (.ref va), .val (.int (0 : Int32)), .val (.int (1 : Int32)), .val .null, .unset] []))
  refine own_getS C P1 (host := "") (Or.inl (hw _ (List.mem_of_getElem? (i := 17) rfl))) Via.refl C0 d12_27 (fun T2 P2 => ?_)
  show OwnDone p e below _ (T2.setTop (mkF m 30 #[.val (.ref a1), .val (.ref va), .val (.int (0 : Int32)), .val (.int (1 : Int32)), .val .null, .unset] [(.int cs)]))
  refine OwnDone.go (A := (T2.setTop (mkF m 33 #[.val (.ref a1), .val (.ref va), .val (.int (0 : Int32)), .val (.int (1 : Int32)), .val .null, .unset] []))) (fun tQ kQ => XS.ifNo P2.here hx rfl (hb hby d12_30) rfl (XT.i0_eq_f C1) kQ) ?_
  show OwnDone p e below _ (T2.setTop (mkF m 33 #[.val (.ref a1), .val (.ref va), .val (.int (0 : Int32)), .val (.int (1 : Int32)), .val .null, .unset] []))
  refine OwnDone.go (A := (T2.setTop (mkF m 36 #[.val (.ref a1), .val (.ref va), .val (.int (0 : Int32)), .val (.int (1 : Int32)), .val .null, .unset] [(.int (1 : Int32)), (.int (0 : Int32)), (.ref va)]))) (fun tQ kQ => ?_) ?_
  · refine XS.aloadN P2.here hx rfl (hb hby d12_33) rfl rfl ?_
    show Steps p.tables e below (T2.setTop (mkF m 34 #[.val (.ref a1), .val (.ref va), .val (.int (0 : Int32)), .val (.int (1 : Int32)), .val .null, .unset] [(.ref va)])) _
    refine XS.iloadN P2.here hx rfl (hb hby d12_34) rfl ?_
    show Steps p.tables e below (T2.setTop (mkF m 35 #[.val (.ref a1), .val (.ref va), .val (.int (0 : Int32)), .val (.int (1 : Int32)), .val .null, .unset] [(.int (0 : Int32)), (.ref va)])) _
    refine XS.iloadN P2.here hx rfl (hb hby d12_35) rfl ?_
    show Steps p.tables e below (T2.setTop (mkF m 36 #[.val (.ref a1), .val (.ref va), .val (.int (0 : Int32)), .val (.int (1 : Int32)), .val .null, .unset] [(.int (1 : Int32)), (.int (0 : Int32)), (.ref va)])) _
    exact kQ
  show OwnDone p e below _ (T2.setTop (mkF m 36 #[.val (.ref a1), .val (.ref va), .val (.int (0 : Int32)), .val (.int (1 : Int32)), .val .null, .unset] [(.int (1 : Int32)), (.int (0 : Int32)), (.ref va)]))
  refine own_callS (y := (⟨"java/lang/StringUTF16", "compress", "([CII)[B"⟩ : MethodName)) C P2 (hw _ (List.mem_of_getElem? (i := 18) rfl)) (hw _ (List.mem_of_getElem? (i := 19) rfl)) (hw _ (List.mem_of_getElem? (i := 20) rfl)) (hw _ (List.mem_of_getElem? (i := 21) rfl)) (by decide) (rm13 l Z a0 hw va kv c0 h0 P2.old Yv q0) (as := [(.ref va), (.int (0 : Int32)), (.int (1 : Int32))]) (rest := []) pd_1 rfl rfl (wd := 0) rfl rfl d12_36 all0 (by decide) (by decide) (by decide) (by decide) (fun T3 h3 v3 P3 K3 hQ3 => ?_)
  obtain ⟨b3, kb3, rfl, Y3, gb3⟩ := hQ3
  have O4_a1 := O1.keep K3 nin0
  have Y5_va := Yv.keep K3 nin0
  have neb3 : a1 ≠ b3 := Nat.ne_of_lt (Nat.lt_of_lt_of_le O1.lt gb3)
  have nev3 : va ≠ b3 := Nat.ne_of_lt (Nat.lt_of_lt_of_le Yv.lt gb3)
  show OwnDone p e below _ (T3.setTop (mkF m 39 #[.val (.ref a1), .val (.ref va), .val (.int (0 : Int32)), .val (.int (1 : Int32)), .val .null, .unset] [(.ref b3)]))
  refine OwnDone.go (A := (T3.setTop (mkF m 45 #[.val (.ref a1), .val (.ref va), .val (.int (0 : Int32)), .val (.int (1 : Int32)), .val .null, .val (.ref b3)] [(.int (1 : Int32)), (.ref b3), (.ref a1)]))) (fun tQ kQ => ?_) ?_
  · refine XS.astore P3.here hx rfl (hb hby d12_39) rfl rfl (l' := #[.val (.ref a1), .val (.ref va), .val (.int (0 : Int32)), .val (.int (1 : Int32)), .val .null, .val (.ref b3)]) rfl ?_
    show Steps p.tables e below (T3.setTop (mkF m 41 #[.val (.ref a1), .val (.ref va), .val (.int (0 : Int32)), .val (.int (1 : Int32)), .val .null, .val (.ref b3)] [])) _
    refine XS.aloadN P3.here hx rfl (hb hby d12_41) rfl rfl ?_
    show Steps p.tables e below (T3.setTop (mkF m 42 #[.val (.ref a1), .val (.ref va), .val (.int (0 : Int32)), .val (.int (1 : Int32)), .val .null, .val (.ref b3)] [(.ref a1)])) _
    refine XS.aload P3.here hx rfl (hb hby d12_42) rfl rfl ?_
    show Steps p.tables e below (T3.setTop (mkF m 44 #[.val (.ref a1), .val (.ref va), .val (.int (0 : Int32)), .val (.int (1 : Int32)), .val .null, .val (.ref b3)] [(.ref b3), (.ref a1)])) _
    refine XS.iloadN P3.here hx rfl (hb hby d12_44) rfl ?_
    show Steps p.tables e below (T3.setTop (mkF m 45 #[.val (.ref a1), .val (.ref va), .val (.int (0 : Int32)), .val (.int (1 : Int32)), .val .null, .val (.ref b3)] [(.int (1 : Int32)), (.ref b3), (.ref a1)])) _
    exact kQ
  show OwnDone p e below _ (T3.setTop (mkF m 45 #[.val (.ref a1), .val (.ref va), .val (.int (0 : Int32)), .val (.int (1 : Int32)), .val .null, .val (.ref b3)] [(.int (1 : Int32)), (.ref b3), (.ref a1)]))
  refine own_callS (y := (⟨"java/lang/StringUTF16", "coderFromArrayLen", "([BI)B"⟩ : MethodName)) C P3 (hw _ (List.mem_of_getElem? (i := 26) rfl)) (hw _ (List.mem_of_getElem? (i := 27) rfl)) (hw _ (List.mem_of_getElem? (i := 20) rfl)) (hw _ (List.mem_of_getElem? (i := 28) rfl)) (by decide) (rm14 l Z a0 hw b3 kb3 (nar .byte (c0.toInt8.toInt32)) h3 P3.old Y3) (as := [(.ref b3), (.int (1 : Int32))]) (rest := [(.ref a1)]) pd_2 rfl rfl (wd := 1) rfl rfl d12_45 all0 (by decide) (by decide) (by decide) (by decide) (fun T6 h6 v6 P6 K6 hQ6 => ?_)
  obtain ⟨rfl, rfl⟩ := hQ6
  show OwnDone p e below _ (T6.setTop (mkF m 48 #[.val (.ref a1), .val (.ref va), .val (.int (0 : Int32)), .val (.int (1 : Int32)), .val .null, .val (.ref b3)] [(.int (0 : Int32)), (.ref a1)]))
  refine own_putO (ty := .byte) C P6 (hw _ (List.mem_of_getElem? (i := 29) rfl)) Via.refl O4_a1 (own_laid0 hw) 0 rfl rfl (Or.inr ⟨(hw _ (List.mem_of_getElem? (i := 30) rfl)), rfl, rfl⟩) (hw _ (List.mem_of_getElem? (i := 5) rfl)) (by decide) (by decide) (by decide) (Or.inl (List.mem_of_getElem? (i := 0) rfl)) d12_48 (vs' := [(.int (0 : Int32)), .null]) rfl (fun T7 h7 P7 K7 O7 => ?_)
  have Y8_va := Y5_va.keep K7 (ninS (Ne.symm nav) nin0)
  have Y9_b3 := Y3.keep K7 (ninS (Ne.symm neb3) nin0)
  show OwnDone p e below _ (T7.setTop (mkF m 51 #[.val (.ref a1), .val (.ref va), .val (.int (0 : Int32)), .val (.int (1 : Int32)), .val .null, .val (.ref b3)] []))
  refine OwnDone.go (A := (T7.setTop (mkF m 54 #[.val (.ref a1), .val (.ref va), .val (.int (0 : Int32)), .val (.int (1 : Int32)), .val .null, .val (.ref b3)] [(.ref b3), (.ref a1)]))) (fun tQ kQ => ?_) ?_
  · refine XS.aloadN P7.here hx rfl (hb hby d12_51) rfl rfl ?_
    show Steps p.tables e below (T7.setTop (mkF m 52 #[.val (.ref a1), .val (.ref va), .val (.int (0 : Int32)), .val (.int (1 : Int32)), .val .null, .val (.ref b3)] [(.ref a1)])) _
    refine XS.aload P7.here hx rfl (hb hby d12_52) rfl rfl ?_
    show Steps p.tables e below (T7.setTop (mkF m 54 #[.val (.ref a1), .val (.ref va), .val (.int (0 : Int32)), .val (.int (1 : Int32)), .val .null, .val (.ref b3)] [(.ref b3), (.ref a1)])) _
    exact kQ
  show OwnDone p e below _ (T7.setTop (mkF m 54 #[.val (.ref a1), .val (.ref va), .val (.int (0 : Int32)), .val (.int (1 : Int32)), .val .null, .val (.ref b3)] [(.ref b3), (.ref a1)]))
  refine own_putO (ty := (.array .byte)) C P7 (hw _ (List.mem_of_getElem? (i := 31) rfl)) Via.refl O7 (own_laid0 hw) 1 rfl rfl (Or.inr ⟨(hw _ (List.mem_of_getElem? (i := 32) rfl)), rfl, rfl⟩) (hw _ (List.mem_of_getElem? (i := 5) rfl)) (by decide) rfl rfl (Or.inl (List.mem_of_getElem? (i := 0) rfl)) d12_54 (vs' := [(.int (0 : Int32)), (.ref b3)]) rfl (fun T10 h10 P10 K10 O10 => ?_)
  have Y11_va := Y8_va.keep K10 (ninS (Ne.symm nav) nin0)
  have Y12_b3 := Y9_b3.keep K10 (ninS (Ne.symm neb3) nin0)
  show OwnDone p e below _ (T10.setTop (mkF m 57 #[.val (.ref a1), .val (.ref va), .val (.int (0 : Int32)), .val (.int (1 : Int32)), .val .null, .val (.ref b3)] []))
  refine own_retV C P10 d12_57 (by decide) (by decide) rfl
theorem d11_0 : decode jdk_42_method_3_code 0 = .ok (.aload_n 0, 1) := by decide +kernel
theorem d11_1 : decode jdk_42_method_3_code 1 = .ok (.aload_n 1, 1) := by decide +kernel
theorem d11_2 : decode jdk_42_method_3_code 2 = .ok (.iconst 0, 1) := by decide +kernel
theorem d11_3 : decode jdk_42_method_3_code 3 = .ok (.aload_n 1, 1) := by decide +kernel
theorem d11_4 : decode jdk_42_method_3_code 4 = .ok (.arraylength, 1) := by decide +kernel
theorem d11_5 : decode jdk_42_method_3_code 5 = .ok (.aconst_null, 1) := by decide +kernel
theorem d11_6 : decode jdk_42_method_3_code 6 = .ok (.invokespecial 27, 3) := by decide +kernel
theorem d11_9 : decode jdk_42_method_3_code 9 = .ok (.return_, 1) := by decide +kernel
theorem pn11 : plainName "java/lang/String" = true := by first | (simp [plainName, overriddenIn]; done) | decide +kernel
theorem ef11 (m : MethodId) (a1 : Addr) (va : Addr)  : entryFrame m #[(.ref a1), (.ref va)] 2 = mkF m 0 #[.val (.ref a1), .val (.ref va)] [] := by first | (simp [entryFrame, mkF, argsToLocals, Value.category]; done) | rfl
set_option maxRecDepth 65536 in
set_option maxHeartbeats 40000000 in
theorem rm11 (l : Launch) (Z : State) (a0 : Array Value) (hw : ∀ d ∈ tables_1, d.before a0 Z = true) (a1 : Addr) (va : Addr) (kv : ClassId) (c0 : Int32) (h0 : Heap) (hE : Ext Z.heap h0) (g_a1 : Z.heap.size ≤ a1) (O1 : OwnObj Z h0 a1 "java/lang/String" own_lay0 [(.int (0 : Int32)), .null]) (Yv : OwnAry Z h0 va kv .char [(.int c0)]) (nav : a1 ≠ va) (q0 : ¬ (255 : Int32) < c0) (cs : Int32) (C0 : Sta Z Z.heap "java/lang/String" "COMPACT_STRINGS" "Z" (.int cs)) (C1 : ¬ cs = 0) :
    OwnMeets l (⟨"java/lang/String", "<init>", "([C)V"⟩ : MethodName) jdk_42_method_3_code 2 none ({ frames := 3, cells := 1, slots := 1, locals := 52 } : Room) Z [a1] #[(.ref a1), (.ref va)] h0 (fun v h => v = none) := by
  refine OwnMeets.of (plainFor_of_name pn11) hE (allS g_a1 all0) ?_
  intro p e s m below meth c T C P
  have hx := C.1
  have hby := C.2.2.2.2.1
  rw [show entryFrame m #[(.ref a1), (.ref va)] 2 = _ from ef11 m a1 va]
  show OwnDone p e below _ (T.setTop (mkF m 0 #[.val (.ref a1), .val (.ref va)] []))
  refine OwnDone.go (A := (T.setTop (mkF m 6 #[.val (.ref a1), .val (.ref va)] [.null, (.int (1 : Int32)), (.int (0 : Int32)), (.ref va), (.ref a1)]))) (fun tQ kQ => ?_) ?_
  · refine XS.aloadN P.here hx rfl (hb hby d11_0) rfl rfl ?_
    show Steps p.tables e below (T.setTop (mkF m 1 #[.val (.ref a1), .val (.ref va)] [(.ref a1)])) _
    refine XS.aloadN P.here hx rfl (hb hby d11_1) rfl rfl ?_
    show Steps p.tables e below (T.setTop (mkF m 2 #[.val (.ref a1), .val (.ref va)] [(.ref va), (.ref a1)])) _
    refine XS.iconst P.here hx rfl (hb hby d11_2) ?_
    show Steps p.tables e below (T.setTop (mkF m 3 #[.val (.ref a1), .val (.ref va)] [(.int (0 : Int32)), (.ref va), (.ref a1)])) _
    refine XS.aloadN P.here hx rfl (hb hby d11_3) rfl rfl ?_
    show Steps p.tables e below (T.setTop (mkF m 4 #[.val (.ref a1), .val (.ref va)] [(.ref va), (.int (0 : Int32)), (.ref va), (.ref a1)])) _
    refine own_alen C P Yv d11_4 ?_
    show Steps p.tables e below (T.setTop (mkF m 5 #[.val (.ref a1), .val (.ref va)] [(.int (1 : Int32)), (.int (0 : Int32)), (.ref va), (.ref a1)])) _
    refine XS.aconstNull P.here hx rfl (hb hby d11_5) ?_
    show Steps p.tables e below (T.setTop (mkF m 6 #[.val (.ref a1), .val (.ref va)] [.null, (.int (1 : Int32)), (.int (0 : Int32)), (.ref va), (.ref a1)])) _
    exact kQ
  show OwnDone p e below _ (T.setTop (mkF m 6 #[.val (.ref a1), .val (.ref va)] [.null, (.int (1 : Int32)), (.int (0 : Int32)), (.ref va), (.ref a1)]))
  refine own_callI (y := (⟨"java/lang/String", "<init>", "([CIILjava/lang/Void;)V"⟩ : MethodName)) C P rfl (hw _ (List.mem_of_getElem? (i := 10) rfl)) (hw _ (List.mem_of_getElem? (i := 11) rfl)) (hw _ (List.mem_of_getElem? (i := 6) rfl)) (hw _ (List.mem_of_getElem? (i := 13) rfl)) (by decide) (rm12 l Z a0 hw a1 va kv c0 h0 P.old g_a1 O1 Yv nav q0 cs C0 C1) (as := [(.ref va), (.int (0 : Int32)), (.int (1 : Int32)), .null]) (rest := []) pd_3 rfl rfl (wd := 0) rfl rfl d11_6 (allS (Or.inl (List.mem_of_getElem? (i := 0) rfl)) all0) (by decide) (by decide) (by decide) (by decide) (fun T1 h1 v1 P1 K1 hQ1 => ?_)
  obtain rfl := hQ1
  have Y2_va := Yv.keep K1 (ninS (Ne.symm nav) nin0)
  show OwnDone p e below _ (T1.setTop (mkF m 9 #[.val (.ref a1), .val (.ref va)] []))
  refine own_retV C P1 d11_9 (by decide) (by decide) rfl
theorem d8_0 : decode jdk_30_method_1_code 0 = .ok (.aload_n 0, 1) := by decide +kernel
theorem d8_1 : decode jdk_30_method_1_code 1 = .ok (.invokespecial 1, 3) := by decide +kernel
theorem d8_4 : decode jdk_30_method_1_code 4 = .ok (.return_, 1) := by decide +kernel
theorem pn8 : plainName "java/lang/Record" = true := by first | (simp [plainName, overriddenIn]; done) | decide +kernel
theorem ef8 (m : MethodId) (a1 : Addr)  : entryFrame m #[(.ref a1)] 1 = mkF m 0 #[.val (.ref a1)] [] := by first | (simp [entryFrame, mkF, argsToLocals, Value.category]; done) | rfl
set_option maxRecDepth 65536 in
set_option maxHeartbeats 40000000 in
theorem rm8 (l : Launch) (Z : State) (a0 : Array Value) (hw : ∀ d ∈ tables_1, d.before a0 Z = true) (a1 : Addr)  (h0 : Heap) (hE : Ext Z.heap h0)   :
    OwnMeets l (⟨"java/lang/Record", "<init>", "()V"⟩ : MethodName) jdk_30_method_1_code 1 none ({ frames := 1, cells := 0, slots := 0, locals := 12 } : Room) Z [] #[(.ref a1)] h0 (fun v h => v = none ∧ h0 = h) := by
  refine OwnMeets.of (plainFor_of_name pn8) hE all0 ?_
  intro p e s m below meth c T C P
  have hx := C.1
  have hby := C.2.2.2.2.1
  rw [show entryFrame m #[(.ref a1)] 1 = _ from ef8 m a1]
  show OwnDone p e below _ (T.setTop (mkF m 0 #[.val (.ref a1)] []))
  refine OwnDone.go (A := (T.setTop (mkF m 1 #[.val (.ref a1)] [(.ref a1)]))) (fun tQ kQ => ?_) ?_
  · refine XS.aloadN P.here hx rfl (hb hby d8_0) rfl rfl ?_
    show Steps p.tables e below (T.setTop (mkF m 1 #[.val (.ref a1)] [(.ref a1)])) _
    exact kQ
  show OwnDone p e below _ (T.setTop (mkF m 1 #[.val (.ref a1)] [(.ref a1)]))
  refine own_initO (wd := 0) (rest := []) C P (hw _ (List.mem_of_getElem? (i := 41) rfl)) (hw _ (List.mem_of_getElem? (i := 15) rfl)) (hw _ (List.mem_of_getElem? (i := 16) rfl)) rfl rfl d8_1 (by decide) (by decide) (fun T1 P1 => ?_)
  show OwnDone p e below _ (T1.setTop (mkF m 4 #[.val (.ref a1)] []))
  refine own_retV C P1 d8_4 (by decide) (by decide) ⟨rfl, rfl⟩
theorem own_c255n (x : Int32) : ¬ (255 : Int32) < nar .char ((x &&& (255 : Int32)).toUInt32.toUInt16.toUInt32.toInt32) := by
  have e : nar .char ((x &&& (255 : Int32)).toUInt32.toUInt16.toUInt32.toInt32) = (x &&& (255 : Int32)).toUInt32.toUInt16.toUInt32.toInt32 := by
    simp only [nar, i2c_mask]
  rw [e, i2c_mask]
  have h := c_and x 255 (by decide)
  have e1 : (255 : Int32).toInt = 255 := by decide
  rw [Int32.lt_iff_toInt_lt]
  omega
theorem own_max (a b : Int64) : (if 0 < a ∨ 0 < b then (1 : Int32) else 0) = (if 0 < (if a < b then b else a) then (1 : Int32) else 0) := by
  have e : (0 < a ∨ 0 < b) ↔ 0 < (if a < b then b else a) := by
    have e0 : (0 : Int64).toInt = 0 := by decide
    split <;> (rename_i h; simp only [Int64.lt_iff_toInt_lt] at h ⊢; omega)
  simp only [e]
theorem drn_0 : decode jdk_31_method_11_code 0 = .ok (.aload_n 0, 1) := by decide +kernel
theorem drn_1 : decode jdk_31_method_11_code 1 = .ok (.ifnonnull 12, 3) := by decide +kernel
theorem drn_13 : decode jdk_31_method_11_code 13 = .ok (.aload_n 0, 1) := by decide +kernel
theorem drn_14 : decode jdk_31_method_11_code 14 = .ok (.areturn, 1) := by decide +kernel
theorem pnrn : plainName "java/util/Objects" = true := by first | (simp [plainName, overriddenIn]; done) | decide +kernel
theorem efrn (m : MethodId) (oa : Addr) (ma : Addr)  : entryFrame m #[(.ref oa), (.ref ma)] 2 = mkF m 0 #[.val (.ref oa), .val (.ref ma)] [] := by first | (simp [entryFrame, mkF, argsToLocals, Value.category]; done) | rfl
set_option maxRecDepth 65536 in
set_option maxHeartbeats 40000000 in
theorem rmrn (l : Launch) (Z : State) (a0 : Array Value) (hw : ∀ d ∈ tables_1, d.before a0 Z = true) (oa : Addr) (ma : Addr)  (h0 : Heap) (hE : Ext Z.heap h0)   :
    OwnMeets l (⟨"java/util/Objects", "requireNonNull", "(Ljava/lang/Object;Ljava/lang/String;)Ljava/lang/Object;"⟩ : MethodName) jdk_31_method_11_code 2 (some (.object "java/lang/Object")) ({ frames := 0, cells := 0, slots := 0, locals := 0 } : Room) Z [] #[(.ref oa), (.ref ma)] h0 (fun v h => v = some (.ref oa) ∧ h0 = h) := by
  refine OwnMeets.of (plainFor_of_name pnrn) hE all0 ?_
  intro p e s m below meth c T C P
  have hx := C.1
  have hby := C.2.2.2.2.1
  rw [show entryFrame m #[(.ref oa), (.ref ma)] 2 = _ from efrn m oa ma]
  show OwnDone p e below _ (T.setTop (mkF m 0 #[.val (.ref oa), .val (.ref ma)] []))
  refine OwnDone.go (A := (T.setTop (mkF m 1 #[.val (.ref oa), .val (.ref ma)] [(.ref oa)]))) (fun tQ kQ => ?_) ?_
  · refine XS.aloadN P.here hx rfl (hb hby drn_0) rfl rfl ?_
    show Steps p.tables e below (T.setTop (mkF m 1 #[.val (.ref oa), .val (.ref ma)] [(.ref oa)])) _
    exact kQ
  show OwnDone p e below _ (T.setTop (mkF m 1 #[.val (.ref oa), .val (.ref ma)] [(.ref oa)]))
  refine OwnDone.go (A := (T.setTop (mkF m 13 #[.val (.ref oa), .val (.ref ma)] []))) (fun tQ kQ => XT.ifnonnullYes P.here hx rfl (pc0 := 1) (pc' := 13) rfl (hb hby drn_1) rfl (by decide) (by decide) kQ) ?_
  show OwnDone p e below _ (T.setTop (mkF m 13 #[.val (.ref oa), .val (.ref ma)] []))
  refine OwnDone.go (A := (T.setTop (mkF m 14 #[.val (.ref oa), .val (.ref ma)] [(.ref oa)]))) (fun tQ kQ => ?_) ?_
  · refine XS.aloadN P.here hx rfl (hb hby drn_13) rfl rfl ?_
    show Steps p.tables e below (T.setTop (mkF m 14 #[.val (.ref oa), .val (.ref ma)] [(.ref oa)])) _
    exact kQ
  show OwnDone p e below _ (T.setTop (mkF m 14 #[.val (.ref oa), .val (.ref ma)] [(.ref oa)]))
  refine own_retA C P rfl rfl drn_14 (by decide) (by decide) ⟨rfl, rfl⟩
theorem dmx_0 : decode jdk_29_method_66_code 0 = .ok (.lload_n 0, 1) := by decide +kernel
theorem dmx_1 : decode jdk_29_method_66_code 1 = .ok (.lload_n 2, 1) := by decide +kernel
theorem dmx_2 : decode jdk_29_method_66_code 2 = .ok (.lcmp, 1) := by decide +kernel
theorem dmx_3 : decode jdk_29_method_66_code 3 = .ok (.ifCond .lt 7, 3) := by decide +kernel
theorem dmx_6 : decode jdk_29_method_66_code 6 = .ok (.lload_n 0, 1) := by decide +kernel
theorem dmx_7 : decode jdk_29_method_66_code 7 = .ok (.goto 4, 3) := by decide +kernel
theorem dmx_10 : decode jdk_29_method_66_code 10 = .ok (.lload_n 2, 1) := by decide +kernel
theorem dmx_11 : decode jdk_29_method_66_code 11 = .ok (.lreturn, 1) := by decide +kernel
theorem efmx (m : MethodId) (x1 : Int64) (x2 : Int64)  : entryFrame m #[(.long x1), (.long x2)] 4 = mkF m 0 #[.val (.long x1), .second, .val (.long x2), .second] [] := by first | (simp [entryFrame, mkF, argsToLocals, Value.category]; done) | rfl
set_option maxRecDepth 65536 in
set_option maxHeartbeats 40000000 in
theorem rmmx (l : Launch) (Z : State) (a0 : Array Value) (hw : ∀ d ∈ tables_1, d.before a0 Z = true) (x1 : Int64) (x2 : Int64)  (h0 : Heap) (hE : Ext Z.heap h0)   :
    OwnMeets l (⟨"java/lang/Math", "max", "(JJ)J"⟩ : MethodName) jdk_29_method_66_code 4 (some .long) ({ frames := 0, cells := 0, slots := 0, locals := 0 } : Room) Z [] #[(.long x1), (.long x2)] h0 (fun v h => v = some (.long (if x1 < x2 then x2 else x1)) ∧ h0 = h) := by
  refine OwnMeets.of (by decide +kernel) hE all0 ?_
  intro p e s m below meth c T C P
  have hx := C.1
  have hby := C.2.2.2.2.1
  rw [show entryFrame m #[(.long x1), (.long x2)] 4 = _ from efmx m x1 x2]
  show OwnDone p e below _ (T.setTop (mkF m 0 #[.val (.long x1), .second, .val (.long x2), .second] []))
  refine OwnDone.go (A := (T.setTop (mkF m 3 #[.val (.long x1), .second, .val (.long x2), .second] [(.int (XT.cmpL x1 x2))]))) (fun tQ kQ => ?_) ?_
  · refine XT.lloadN P.here hx rfl (hb hby dmx_0) rfl ?_
    show Steps p.tables e below (T.setTop (mkF m 1 #[.val (.long x1), .second, .val (.long x2), .second] [(.long x1)])) _
    refine XT.lloadN P.here hx rfl (hb hby dmx_1) rfl ?_
    show Steps p.tables e below (T.setTop (mkF m 2 #[.val (.long x1), .second, .val (.long x2), .second] [(.long x2), (.long x1)])) _
    refine XT.lcmp P.here hx rfl (hb hby dmx_2) rfl ?_
    show Steps p.tables e below (T.setTop (mkF m 3 #[.val (.long x1), .second, .val (.long x2), .second] [(.int (XT.cmpL x1 x2))])) _
    exact kQ
  show OwnDone p e below _ (T.setTop (mkF m 3 #[.val (.long x1), .second, .val (.long x2), .second] [(.int (XT.cmpL x1 x2))]))
  by_cases hc3 : x1 < x2
  · refine OwnDone.go (A := (T.setTop (mkF m 10 #[.val (.long x1), .second, .val (.long x2), .second] []))) (fun tQ kQ => XS.ifYes P.here hx rfl (pc0 := 3) (pc' := 10) rfl (hb hby dmx_3) rfl (XT.ll_lt_t hc3) (by decide) (by decide) kQ) ?_
    show OwnDone p e below _ (T.setTop (mkF m 10 #[.val (.long x1), .second, .val (.long x2), .second] []))
    refine OwnDone.go (A := (T.setTop (mkF m 11 #[.val (.long x1), .second, .val (.long x2), .second] [(.long x2)]))) (fun tQ kQ => ?_) ?_
    · refine XT.lloadN P.here hx rfl (hb hby dmx_10) rfl ?_
      show Steps p.tables e below (T.setTop (mkF m 11 #[.val (.long x1), .second, .val (.long x2), .second] [(.long x2)])) _
      exact kQ
    show OwnDone p e below _ (T.setTop (mkF m 11 #[.val (.long x1), .second, .val (.long x2), .second] [(.long x2)]))
    refine own_retJ C P dmx_11 (by decide) (by decide) ⟨by first | rw [if_pos hc3] | rw [if_neg hc3], rfl⟩
  · refine OwnDone.go (A := (T.setTop (mkF m 6 #[.val (.long x1), .second, .val (.long x2), .second] []))) (fun tQ kQ => XS.ifNo P.here hx rfl (hb hby dmx_3) rfl (XT.ll_lt_f hc3) kQ) ?_
    show OwnDone p e below _ (T.setTop (mkF m 6 #[.val (.long x1), .second, .val (.long x2), .second] []))
    refine OwnDone.go (A := (T.setTop (mkF m 11 #[.val (.long x1), .second, .val (.long x2), .second] [(.long x1)]))) (fun tQ kQ => ?_) ?_
    · refine XT.lloadN P.here hx rfl (hb hby dmx_6) rfl ?_
      show Steps p.tables e below (T.setTop (mkF m 7 #[.val (.long x1), .second, .val (.long x2), .second] [(.long x1)])) _
      refine XS.goto P.here hx rfl (pc0 := 7) (pc' := 11) rfl (hb hby dmx_7) (by decide) (by decide) ?_
      show Steps p.tables e below (T.setTop (mkF m 11 #[.val (.long x1), .second, .val (.long x2), .second] [(.long x1)])) _
      exact kQ
    show OwnDone p e below _ (T.setTop (mkF m 11 #[.val (.long x1), .second, .val (.long x2), .second] [(.long x1)]))
    refine own_retJ C P dmx_11 (by decide) (by decide) ⟨by first | rw [if_pos hc3] | rw [if_neg hc3], rfl⟩
theorem din_0 : decode prog_142_method_1_code 0 = .ok (.aload_n 0, 1) := by decide +kernel
theorem din_1 : decode prog_142_method_1_code 1 = .ok (.invokespecial 1, 3) := by decide +kernel
theorem din_4 : decode prog_142_method_1_code 4 = .ok (.aload_n 1, 1) := by decide +kernel
theorem din_5 : decode prog_142_method_1_code 5 = .ok (.ldc 7, 2) := by decide +kernel
theorem din_7 : decode prog_142_method_1_code 7 = .ok (.invokestatic 9, 3) := by decide +kernel
theorem din_10 : decode prog_142_method_1_code 10 = .ok (.pop, 1) := by decide +kernel
theorem din_11 : decode prog_142_method_1_code 11 = .ok (.aload_n 0, 1) := by decide +kernel
theorem din_12 : decode prog_142_method_1_code 12 = .ok (.aload_n 1, 1) := by decide +kernel
theorem din_13 : decode prog_142_method_1_code 13 = .ok (.putfield 15, 3) := by decide +kernel
theorem din_16 : decode prog_142_method_1_code 16 = .ok (.aload_n 0, 1) := by decide +kernel
theorem din_17 : decode prog_142_method_1_code 17 = .ok (.iload_n 2, 1) := by decide +kernel
theorem din_18 : decode prog_142_method_1_code 18 = .ok (.putfield 20, 3) := by decide +kernel
theorem din_21 : decode prog_142_method_1_code 21 = .ok (.aload_n 0, 1) := by decide +kernel
theorem din_22 : decode prog_142_method_1_code 22 = .ok (.lload_n 3, 1) := by decide +kernel
theorem din_23 : decode prog_142_method_1_code 23 = .ok (.putfield 24, 3) := by decide +kernel
theorem din_26 : decode prog_142_method_1_code 26 = .ok (.aload_n 0, 1) := by decide +kernel
theorem din_27 : decode prog_142_method_1_code 27 = .ok (.lload 5, 2) := by decide +kernel
theorem din_29 : decode prog_142_method_1_code 29 = .ok (.putfield 28, 3) := by decide +kernel
theorem din_32 : decode prog_142_method_1_code 32 = .ok (.return_, 1) := by decide +kernel
theorem pnin : plainName "com/example/glasshouse/glasshouse/model/CoverageRun$Branch" = true := by first | (simp [plainName, overriddenIn]; done) | decide +kernel
theorem efin (m : MethodId) (a1 : Addr) (me : Addr) (li : Int32) (tc : Int64) (fc : Int64)  : entryFrame m #[(.ref a1), (.ref me), (.int li), (.long tc), (.long fc)] 7 = mkF m 0 #[.val (.ref a1), .val (.ref me), .val (.int li), .val (.long tc), .second, .val (.long fc), .second] [] := by first | (simp [entryFrame, mkF, argsToLocals, Value.category]; done) | rfl
set_option maxRecDepth 65536 in
set_option maxHeartbeats 40000000 in
theorem rmin (l : Launch) (Z : State) (a0 : Array Value) (hw : ∀ d ∈ tables_1, d.before a0 Z = true) (a1 : Addr) (me : Addr) (li : Int32) (tc : Int64) (fc : Int64)  (h0 : Heap) (hE : Ext Z.heap h0) (g_a1 : Z.heap.size ≤ a1) (O1 : OwnObj Z h0 a1 "com/example/glasshouse/glasshouse/model/CoverageRun$Branch" own_lay1 [.null, (.int (0 : Int32)), (.long (0 : Int64)), (.long (0 : Int64))]) :
    OwnMeets l (⟨"com/example/glasshouse/glasshouse/model/CoverageRun$Branch", "<init>", "(Ljava/lang/String;IJJ)V"⟩ : MethodName) prog_142_method_1_code 7 none ({ frames := 2, cells := 2, slots := 28, locals := 24 } : Room) Z [a1] #[(.ref a1), (.ref me), (.int li), (.long tc), (.long fc)] h0 (fun v h => v = none ∧ OwnObj Z h a1 "com/example/glasshouse/glasshouse/model/CoverageRun$Branch" own_lay1 [(.ref me), (.int li), (.long tc), (.long fc)]) := by
  refine OwnMeets.of (plainFor_of_name pnin) hE (allS g_a1 all0) ?_
  intro p e s m below meth c T C P
  have hx := C.1
  have hby := C.2.2.2.2.1
  rw [show entryFrame m #[(.ref a1), (.ref me), (.int li), (.long tc), (.long fc)] 7 = _ from efin m a1 me li tc fc]
  show OwnDone p e below _ (T.setTop (mkF m 0 #[.val (.ref a1), .val (.ref me), .val (.int li), .val (.long tc), .second, .val (.long fc), .second] []))
  refine OwnDone.go (A := (T.setTop (mkF m 1 #[.val (.ref a1), .val (.ref me), .val (.int li), .val (.long tc), .second, .val (.long fc), .second] [(.ref a1)]))) (fun tQ kQ => ?_) ?_
  · refine XS.aloadN P.here hx rfl (hb hby din_0) rfl rfl ?_
    show Steps p.tables e below (T.setTop (mkF m 1 #[.val (.ref a1), .val (.ref me), .val (.int li), .val (.long tc), .second, .val (.long fc), .second] [(.ref a1)])) _
    exact kQ
  show OwnDone p e below _ (T.setTop (mkF m 1 #[.val (.ref a1), .val (.ref me), .val (.int li), .val (.long tc), .second, .val (.long fc), .second] [(.ref a1)]))
  refine own_callI (y := (⟨"java/lang/Record", "<init>", "()V"⟩ : MethodName)) C P rfl (hw _ (List.mem_of_getElem? (i := 36) rfl)) (hw _ (List.mem_of_getElem? (i := 37) rfl)) (hw _ (List.mem_of_getElem? (i := 39) rfl)) (hw _ (List.mem_of_getElem? (i := 40) rfl)) (by decide) (rm8 l Z a0 hw a1 h0 P.old) (as := []) (rest := []) pd_4 rfl rfl (wd := 0) rfl rfl din_1 all0 (by decide) (by decide) (by decide) (by decide) (fun T1 h1 v1 P1 K1 hQ1 => ?_)
  obtain ⟨rfl, rfl⟩ := hQ1
  show OwnDone p e below _ (T1.setTop (mkF m 4 #[.val (.ref a1), .val (.ref me), .val (.int li), .val (.long tc), .second, .val (.long fc), .second] []))
  refine OwnDone.go (A := (T1.setTop (mkF m 5 #[.val (.ref a1), .val (.ref me), .val (.int li), .val (.long tc), .second, .val (.long fc), .second] [(.ref me)]))) (fun tQ kQ => ?_) ?_
  · refine XS.aloadN P1.here hx rfl (hb hby din_4) rfl rfl ?_
    show Steps p.tables e below (T1.setTop (mkF m 5 #[.val (.ref a1), .val (.ref me), .val (.int li), .val (.long tc), .second, .val (.long fc), .second] [(.ref me)])) _
    exact kQ
  show OwnDone p e below _ (T1.setTop (mkF m 5 #[.val (.ref a1), .val (.ref me), .val (.int li), .val (.long tc), .second, .val (.long fc), .second] [(.ref me)]))
  refine own_ldcS (n := 24) C P1 (hw _ (List.mem_of_getElem? (i := 42) rfl)) (own_wS hw) din_5 (by decide) (by decide) (by decide) (by decide) (fun T2 h2 a2 P2 K2 => ?_)
  have O3_a1 := O1.keep K2 nin0
  show OwnDone p e below _ (T2.setTop (mkF m 7 #[.val (.ref a1), .val (.ref me), .val (.int li), .val (.long tc), .second, .val (.long fc), .second] [(.ref a2), (.ref me)]))
  refine own_callS (y := (⟨"java/util/Objects", "requireNonNull", "(Ljava/lang/Object;Ljava/lang/String;)Ljava/lang/Object;"⟩ : MethodName)) C P2 (hw _ (List.mem_of_getElem? (i := 45) rfl)) (hw _ (List.mem_of_getElem? (i := 46) rfl)) (hw _ (List.mem_of_getElem? (i := 47) rfl)) (hw _ (List.mem_of_getElem? (i := 48) rfl)) (by decide) (rmrn l Z a0 hw me a2 h2 P2.old) (as := [(.ref me), (.ref a2)]) (rest := []) pd_5 rfl rfl (wd := 0) rfl rfl din_7 all0 (by decide) (by decide) (by decide) (by decide) (fun T4 h4 v4 P4 K4 hQ4 => ?_)
  obtain ⟨rfl, rfl⟩ := hQ4
  show OwnDone p e below _ (T4.setTop (mkF m 10 #[.val (.ref a1), .val (.ref me), .val (.int li), .val (.long tc), .second, .val (.long fc), .second] [(.ref me)]))
  refine OwnDone.go (A := (T4.setTop (mkF m 13 #[.val (.ref a1), .val (.ref me), .val (.int li), .val (.long tc), .second, .val (.long fc), .second] [(.ref me), (.ref a1)]))) (fun tQ kQ => ?_) ?_
  · refine XT.pop P4.here hx rfl (hb hby din_10) rfl rfl ?_
    show Steps p.tables e below (T4.setTop (mkF m 11 #[.val (.ref a1), .val (.ref me), .val (.int li), .val (.long tc), .second, .val (.long fc), .second] [])) _
    refine XS.aloadN P4.here hx rfl (hb hby din_11) rfl rfl ?_
    show Steps p.tables e below (T4.setTop (mkF m 12 #[.val (.ref a1), .val (.ref me), .val (.int li), .val (.long tc), .second, .val (.long fc), .second] [(.ref a1)])) _
    refine XS.aloadN P4.here hx rfl (hb hby din_12) rfl rfl ?_
    show Steps p.tables e below (T4.setTop (mkF m 13 #[.val (.ref a1), .val (.ref me), .val (.int li), .val (.long tc), .second, .val (.long fc), .second] [(.ref me), (.ref a1)])) _
    exact kQ
  show OwnDone p e below _ (T4.setTop (mkF m 13 #[.val (.ref a1), .val (.ref me), .val (.int li), .val (.long tc), .second, .val (.long fc), .second] [(.ref me), (.ref a1)]))
  refine own_putO (ty := (.object "java/lang/String")) C P4 (hw _ (List.mem_of_getElem? (i := 49) rfl)) Via.refl O3_a1 (own_laid1 hw) 0 rfl rfl (Or.inr ⟨(hw _ (List.mem_of_getElem? (i := 50) rfl)), rfl, rfl⟩) (hw _ (List.mem_of_getElem? (i := 2) rfl)) (by decide) rfl rfl (Or.inl (List.mem_of_getElem? (i := 0) rfl)) din_13 (vs' := [(.ref me), (.int (0 : Int32)), (.long (0 : Int64)), (.long (0 : Int64))]) rfl (fun T5 h5 P5 K5 O5 => ?_)
  show OwnDone p e below _ (T5.setTop (mkF m 16 #[.val (.ref a1), .val (.ref me), .val (.int li), .val (.long tc), .second, .val (.long fc), .second] []))
  refine OwnDone.go (A := (T5.setTop (mkF m 18 #[.val (.ref a1), .val (.ref me), .val (.int li), .val (.long tc), .second, .val (.long fc), .second] [(.int li), (.ref a1)]))) (fun tQ kQ => ?_) ?_
  · refine XS.aloadN P5.here hx rfl (hb hby din_16) rfl rfl ?_
    show Steps p.tables e below (T5.setTop (mkF m 17 #[.val (.ref a1), .val (.ref me), .val (.int li), .val (.long tc), .second, .val (.long fc), .second] [(.ref a1)])) _
    refine XS.iloadN P5.here hx rfl (hb hby din_17) rfl ?_
    show Steps p.tables e below (T5.setTop (mkF m 18 #[.val (.ref a1), .val (.ref me), .val (.int li), .val (.long tc), .second, .val (.long fc), .second] [(.int li), (.ref a1)])) _
    exact kQ
  show OwnDone p e below _ (T5.setTop (mkF m 18 #[.val (.ref a1), .val (.ref me), .val (.int li), .val (.long tc), .second, .val (.long fc), .second] [(.int li), (.ref a1)]))
  refine own_putO (ty := .int) C P5 (hw _ (List.mem_of_getElem? (i := 51) rfl)) Via.refl O5 (own_laid1 hw) 1 rfl rfl (Or.inr ⟨(hw _ (List.mem_of_getElem? (i := 52) rfl)), rfl, rfl⟩) (hw _ (List.mem_of_getElem? (i := 2) rfl)) (by decide) rfl rfl (Or.inl (List.mem_of_getElem? (i := 0) rfl)) din_18 (vs' := [(.ref me), (.int li), (.long (0 : Int64)), (.long (0 : Int64))]) rfl (fun T6 h6 P6 K6 O6 => ?_)
  show OwnDone p e below _ (T6.setTop (mkF m 21 #[.val (.ref a1), .val (.ref me), .val (.int li), .val (.long tc), .second, .val (.long fc), .second] []))
  refine OwnDone.go (A := (T6.setTop (mkF m 23 #[.val (.ref a1), .val (.ref me), .val (.int li), .val (.long tc), .second, .val (.long fc), .second] [(.long tc), (.ref a1)]))) (fun tQ kQ => ?_) ?_
  · refine XS.aloadN P6.here hx rfl (hb hby din_21) rfl rfl ?_
    show Steps p.tables e below (T6.setTop (mkF m 22 #[.val (.ref a1), .val (.ref me), .val (.int li), .val (.long tc), .second, .val (.long fc), .second] [(.ref a1)])) _
    refine XT.lloadN P6.here hx rfl (hb hby din_22) rfl ?_
    show Steps p.tables e below (T6.setTop (mkF m 23 #[.val (.ref a1), .val (.ref me), .val (.int li), .val (.long tc), .second, .val (.long fc), .second] [(.long tc), (.ref a1)])) _
    exact kQ
  show OwnDone p e below _ (T6.setTop (mkF m 23 #[.val (.ref a1), .val (.ref me), .val (.int li), .val (.long tc), .second, .val (.long fc), .second] [(.long tc), (.ref a1)]))
  refine own_putO (ty := .long) C P6 (hw _ (List.mem_of_getElem? (i := 53) rfl)) Via.refl O6 (own_laid1 hw) 2 rfl rfl (Or.inr ⟨(hw _ (List.mem_of_getElem? (i := 54) rfl)), rfl, rfl⟩) (hw _ (List.mem_of_getElem? (i := 2) rfl)) (by decide) rfl rfl (Or.inl (List.mem_of_getElem? (i := 0) rfl)) din_23 (vs' := [(.ref me), (.int li), (.long tc), (.long (0 : Int64))]) rfl (fun T7 h7 P7 K7 O7 => ?_)
  show OwnDone p e below _ (T7.setTop (mkF m 26 #[.val (.ref a1), .val (.ref me), .val (.int li), .val (.long tc), .second, .val (.long fc), .second] []))
  refine OwnDone.go (A := (T7.setTop (mkF m 29 #[.val (.ref a1), .val (.ref me), .val (.int li), .val (.long tc), .second, .val (.long fc), .second] [(.long fc), (.ref a1)]))) (fun tQ kQ => ?_) ?_
  · refine XS.aloadN P7.here hx rfl (hb hby din_26) rfl rfl ?_
    show Steps p.tables e below (T7.setTop (mkF m 27 #[.val (.ref a1), .val (.ref me), .val (.int li), .val (.long tc), .second, .val (.long fc), .second] [(.ref a1)])) _
    refine XT.lload P7.here hx rfl (hb hby din_27) rfl ?_
    show Steps p.tables e below (T7.setTop (mkF m 29 #[.val (.ref a1), .val (.ref me), .val (.int li), .val (.long tc), .second, .val (.long fc), .second] [(.long fc), (.ref a1)])) _
    exact kQ
  show OwnDone p e below _ (T7.setTop (mkF m 29 #[.val (.ref a1), .val (.ref me), .val (.int li), .val (.long tc), .second, .val (.long fc), .second] [(.long fc), (.ref a1)]))
  refine own_putO (ty := .long) C P7 (hw _ (List.mem_of_getElem? (i := 55) rfl)) Via.refl O7 (own_laid1 hw) 3 rfl rfl (Or.inr ⟨(hw _ (List.mem_of_getElem? (i := 56) rfl)), rfl, rfl⟩) (hw _ (List.mem_of_getElem? (i := 2) rfl)) (by decide) rfl rfl (Or.inl (List.mem_of_getElem? (i := 0) rfl)) din_29 (vs' := [(.ref me), (.int li), (.long tc), (.long fc)]) rfl (fun T8 h8 P8 K8 O8 => ?_)
  show OwnDone p e below _ (T8.setTop (mkF m 32 #[.val (.ref a1), .val (.ref me), .val (.int li), .val (.long tc), .second, .val (.long fc), .second] []))
  refine own_retV C P8 din_32 (by decide) (by decide) ⟨rfl, O8⟩
theorem dts_0 : decode prog_142_method_2_code 0 = .ok (.aload_n 0, 1) := by decide +kernel
theorem dts_1 : decode prog_142_method_2_code 1 = .ok (.getfield 24, 3) := by decide +kernel
theorem dts_4 : decode prog_142_method_2_code 4 = .ok (.lconst 0, 1) := by decide +kernel
theorem dts_5 : decode prog_142_method_2_code 5 = .ok (.lcmp, 1) := by decide +kernel
theorem dts_6 : decode prog_142_method_2_code 6 = .ok (.ifCond .gt 12, 3) := by decide +kernel
theorem dts_9 : decode prog_142_method_2_code 9 = .ok (.aload_n 0, 1) := by decide +kernel
theorem dts_10 : decode prog_142_method_2_code 10 = .ok (.getfield 28, 3) := by decide +kernel
theorem dts_13 : decode prog_142_method_2_code 13 = .ok (.lconst 0, 1) := by decide +kernel
theorem dts_14 : decode prog_142_method_2_code 14 = .ok (.lcmp, 1) := by decide +kernel
theorem dts_15 : decode prog_142_method_2_code 15 = .ok (.ifCond .le 7, 3) := by decide +kernel
theorem dts_18 : decode prog_142_method_2_code 18 = .ok (.iconst 1, 1) := by decide +kernel
theorem dts_19 : decode prog_142_method_2_code 19 = .ok (.goto 4, 3) := by decide +kernel
theorem dts_22 : decode prog_142_method_2_code 22 = .ok (.iconst 0, 1) := by decide +kernel
theorem dts_23 : decode prog_142_method_2_code 23 = .ok (.ireturn, 1) := by decide +kernel
theorem pnts : plainName "com/example/glasshouse/glasshouse/model/CoverageRun$Branch" = true := by first | (simp [plainName, overriddenIn]; done) | decide +kernel
theorem efts (m : MethodId) (a1 : Addr)  : entryFrame m #[(.ref a1)] 1 = mkF m 0 #[.val (.ref a1)] [] := by first | (simp [entryFrame, mkF, argsToLocals, Value.category]; done) | rfl
set_option maxRecDepth 65536 in
set_option maxHeartbeats 40000000 in
theorem rmts (l : Launch) (Z : State) (a0 : Array Value) (hw : ∀ d ∈ tables_1, d.before a0 Z = true) (a1 : Addr) (me : Addr) (li : Int32) (tc fc : Int64) (h0 : Heap) (hE : Ext Z.heap h0)  (O1 : OwnObj Z h0 a1 "com/example/glasshouse/glasshouse/model/CoverageRun$Branch" own_lay1 [(.ref me), (.int li), (.long tc), (.long fc)]) :
    OwnMeets l (⟨"com/example/glasshouse/glasshouse/model/CoverageRun$Branch", "tested", "()Z"⟩ : MethodName) prog_142_method_2_code 1 (some .boolean) ({ frames := 0, cells := 0, slots := 0, locals := 0 } : Room) Z [] #[(.ref a1)] h0 (fun v h => v = some (.int (if 0 < tc ∨ 0 < fc then 1 else 0)) ∧ h0 = h) := by
  refine OwnMeets.of (plainFor_of_name pnts) hE all0 ?_
  intro p e s m below meth c T C P
  have hx := C.1
  have hby := C.2.2.2.2.1
  rw [show entryFrame m #[(.ref a1)] 1 = _ from efts m a1]
  show OwnDone p e below _ (T.setTop (mkF m 0 #[.val (.ref a1)] []))
  refine OwnDone.go (A := (T.setTop (mkF m 1 #[.val (.ref a1)] [(.ref a1)]))) (fun tQ kQ => ?_) ?_
  · refine XS.aloadN P.here hx rfl (hb hby dts_0) rfl rfl ?_
    show Steps p.tables e below (T.setTop (mkF m 1 #[.val (.ref a1)] [(.ref a1)])) _
    exact kQ
  show OwnDone p e below _ (T.setTop (mkF m 1 #[.val (.ref a1)] [(.ref a1)]))
  refine own_getF C P (host := "") (Or.inl (hw _ (List.mem_of_getElem? (i := 53) rfl))) Via.refl (O1.2 2 _ _ _ _ rfl rfl) dts_1 (fun T1 P1 => ?_)
  show OwnDone p e below _ (T1.setTop (mkF m 4 #[.val (.ref a1)] [(.long tc)]))
  refine OwnDone.go (A := (T1.setTop (mkF m 6 #[.val (.ref a1)] [(.int (XT.cmpL tc (0 : Int64)))]))) (fun tQ kQ => ?_) ?_
  · refine XT.lconst P1.here hx rfl (hb hby dts_4) ?_
    show Steps p.tables e below (T1.setTop (mkF m 5 #[.val (.ref a1)] [(.long (0 : Int64)), (.long tc)])) _
    refine XT.lcmp P1.here hx rfl (hb hby dts_5) rfl ?_
    show Steps p.tables e below (T1.setTop (mkF m 6 #[.val (.ref a1)] [(.int (XT.cmpL tc (0 : Int64)))])) _
    exact kQ
  show OwnDone p e below _ (T1.setTop (mkF m 6 #[.val (.ref a1)] [(.int (XT.cmpL tc (0 : Int64)))]))
  by_cases hc6 : (0 : Int64) < tc
  · refine OwnDone.go (A := (T1.setTop (mkF m 18 #[.val (.ref a1)] []))) (fun tQ kQ => XS.ifYes P1.here hx rfl (pc0 := 6) (pc' := 18) rfl (hb hby dts_6) rfl (XT.ll_gt_t hc6) (by decide) (by decide) kQ) ?_
    show OwnDone p e below _ (T1.setTop (mkF m 18 #[.val (.ref a1)] []))
    refine OwnDone.go (A := (T1.setTop (mkF m 23 #[.val (.ref a1)] [(.int (1 : Int32))]))) (fun tQ kQ => ?_) ?_
    · refine XS.iconst P1.here hx rfl (hb hby dts_18) ?_
      show Steps p.tables e below (T1.setTop (mkF m 19 #[.val (.ref a1)] [(.int (1 : Int32))])) _
      refine XS.goto P1.here hx rfl (pc0 := 19) (pc' := 23) rfl (hb hby dts_19) (by decide) (by decide) ?_
      show Steps p.tables e below (T1.setTop (mkF m 23 #[.val (.ref a1)] [(.int (1 : Int32))])) _
      exact kQ
    show OwnDone p e below _ (T1.setTop (mkF m 23 #[.val (.ref a1)] [(.int (1 : Int32))]))
    refine own_retN C P1 (by simp) (z' := (1 : Int32)) (by decide) dts_23 (by decide) (by decide) ⟨by simp only [*, true_or, or_true, or_self, if_true, if_false], rfl⟩
  · refine OwnDone.go (A := (T1.setTop (mkF m 9 #[.val (.ref a1)] []))) (fun tQ kQ => XS.ifNo P1.here hx rfl (hb hby dts_6) rfl (XT.ll_gt_f hc6) kQ) ?_
    show OwnDone p e below _ (T1.setTop (mkF m 9 #[.val (.ref a1)] []))
    refine OwnDone.go (A := (T1.setTop (mkF m 10 #[.val (.ref a1)] [(.ref a1)]))) (fun tQ kQ => ?_) ?_
    · refine XS.aloadN P1.here hx rfl (hb hby dts_9) rfl rfl ?_
      show Steps p.tables e below (T1.setTop (mkF m 10 #[.val (.ref a1)] [(.ref a1)])) _
      exact kQ
    show OwnDone p e below _ (T1.setTop (mkF m 10 #[.val (.ref a1)] [(.ref a1)]))
    refine own_getF C P1 (host := "") (Or.inl (hw _ (List.mem_of_getElem? (i := 55) rfl))) Via.refl (O1.2 3 _ _ _ _ rfl rfl) dts_10 (fun T2 P2 => ?_)
    show OwnDone p e below _ (T2.setTop (mkF m 13 #[.val (.ref a1)] [(.long fc)]))
    refine OwnDone.go (A := (T2.setTop (mkF m 15 #[.val (.ref a1)] [(.int (XT.cmpL fc (0 : Int64)))]))) (fun tQ kQ => ?_) ?_
    · refine XT.lconst P2.here hx rfl (hb hby dts_13) ?_
      show Steps p.tables e below (T2.setTop (mkF m 14 #[.val (.ref a1)] [(.long (0 : Int64)), (.long fc)])) _
      refine XT.lcmp P2.here hx rfl (hb hby dts_14) rfl ?_
      show Steps p.tables e below (T2.setTop (mkF m 15 #[.val (.ref a1)] [(.int (XT.cmpL fc (0 : Int64)))])) _
      exact kQ
    show OwnDone p e below _ (T2.setTop (mkF m 15 #[.val (.ref a1)] [(.int (XT.cmpL fc (0 : Int64)))]))
    by_cases hc15 : (0 : Int64) < fc
    · refine OwnDone.go (A := (T2.setTop (mkF m 18 #[.val (.ref a1)] []))) (fun tQ kQ => XS.ifNo P2.here hx rfl (hb hby dts_15) rfl (XT.ll_le_f hc15) kQ) ?_
      show OwnDone p e below _ (T2.setTop (mkF m 18 #[.val (.ref a1)] []))
      refine OwnDone.go (A := (T2.setTop (mkF m 23 #[.val (.ref a1)] [(.int (1 : Int32))]))) (fun tQ kQ => ?_) ?_
      · refine XS.iconst P2.here hx rfl (hb hby dts_18) ?_
        show Steps p.tables e below (T2.setTop (mkF m 19 #[.val (.ref a1)] [(.int (1 : Int32))])) _
        refine XS.goto P2.here hx rfl (pc0 := 19) (pc' := 23) rfl (hb hby dts_19) (by decide) (by decide) ?_
        show Steps p.tables e below (T2.setTop (mkF m 23 #[.val (.ref a1)] [(.int (1 : Int32))])) _
        exact kQ
      show OwnDone p e below _ (T2.setTop (mkF m 23 #[.val (.ref a1)] [(.int (1 : Int32))]))
      refine own_retN C P2 (by simp) (z' := (1 : Int32)) (by decide) dts_23 (by decide) (by decide) ⟨by simp only [*, true_or, or_true, or_self, if_true, if_false], rfl⟩
    · refine OwnDone.go (A := (T2.setTop (mkF m 22 #[.val (.ref a1)] []))) (fun tQ kQ => XS.ifYes P2.here hx rfl (pc0 := 15) (pc' := 22) rfl (hb hby dts_15) rfl (XT.ll_le_t hc15) (by decide) (by decide) kQ) ?_
      show OwnDone p e below _ (T2.setTop (mkF m 22 #[.val (.ref a1)] []))
      refine OwnDone.go (A := (T2.setTop (mkF m 23 #[.val (.ref a1)] [(.int (0 : Int32))]))) (fun tQ kQ => ?_) ?_
      · refine XS.iconst P2.here hx rfl (hb hby dts_22) ?_
        show Steps p.tables e below (T2.setTop (mkF m 23 #[.val (.ref a1)] [(.int (0 : Int32))])) _
        exact kQ
      show OwnDone p e below _ (T2.setTop (mkF m 23 #[.val (.ref a1)] [(.int (0 : Int32))]))
      refine own_retN C P2 (by simp) (z' := (0 : Int32)) (by decide) dts_23 (by decide) (by decide) ⟨by simp only [*, true_or, or_true, or_self, if_true, if_false], rfl⟩
theorem pn0 : plainName "com/example/glasshouse/glasshouse/model/BranchTestedPinLaw" = true := by first | (simp [plainName, overriddenIn]; done) | decide +kernel
theorem ef0 (m : MethodId) (p1 : Int32) (p2 : Int32) (p3 : Int64) (p4 : Int64)  : entryFrame m #[(.int p1), (.int p2), (.long p3), (.long p4)] maxLocals = mkF m 0 #[.val (.int p1), .val (.int p2), .val (.long p3), .second, .val (.long p4), .second, .unset, .unset, .unset] [] := by first | (simp [entryFrame, mkF, argsToLocals, Value.category, maxLocals]; done) | rfl
set_option maxRecDepth 65536 in
set_option maxHeartbeats 40000000 in
theorem rm0 (l : Launch) (Z : State) (a0 : Array Value) (hw : ∀ d ∈ tables_1, d.before a0 Z = true) (p1 : Int32) (p2 : Int32) (p3 : Int64) (p4 : Int64)  (h0 : Heap) (hE : Ext Z.heap h0)   (cs : Int32) (C0 : Sta Z Z.heap "java/lang/String" "COMPACT_STRINGS" "Z" (.int cs)) (C1 : ¬ cs = 0) :
    OwnMeets l x code maxLocals ret room_1 Z [] #[(.int p1), (.int p2), (.long p3), (.long p4)] h0 (fun v h => v = some (.int 1)) := by
  refine OwnMeets.of (plainFor_of_name pn0) hE all0 ?_
  intro p e s m below meth c T C P
  have hx := C.1
  have hby := C.2.2.2.2.1
  rw [show entryFrame m #[(.int p1), (.int p2), (.long p3), (.long p4)] maxLocals = _ from ef0 m p1 p2 p3 p4]
  show OwnDone p e below _ (T.setTop (mkF m 0 #[.val (.int p1), .val (.int p2), .val (.long p3), .second, .val (.long p4), .second, .unset, .unset, .unset] []))
  refine OwnDone.go (A := (T.setTop (mkF m 1 #[.val (.int p1), .val (.int p2), .val (.long p3), .second, .val (.long p4), .second, .unset, .unset, .unset] [(.int (1 : Int32))]))) (fun tQ kQ => ?_) ?_
  · refine XS.iconst P.here hx rfl (hb hby at_0) ?_
    show Steps p.tables e below (T.setTop (mkF m 1 #[.val (.int p1), .val (.int p2), .val (.long p3), .second, .val (.long p4), .second, .unset, .unset, .unset] [(.int (1 : Int32))])) _
    exact kQ
  show OwnDone p e below _ (T.setTop (mkF m 1 #[.val (.int p1), .val (.int p2), .val (.long p3), .second, .val (.long p4), .second, .unset, .unset, .unset] [(.int (1 : Int32))]))
  refine own_newP (aty := .char) (n := (1 : Int32)) (cap := 1) (vs := [(.int (0 : Int32))]) C P (hw _ (List.mem_of_getElem? (i := 0) rfl)) at_1 (by decide) (by decide) (by decide) (by decide +kernel) rfl (by decide) (by decide) (fun T1 h1 a1 k1 ga1 la1 P1 K1 Y1 N1 => ?_)
  have ge_a1 : h0.size ≤ a1 := by rw [ga1]; exact P.keep.1
  have Y1 : OwnAry Z h1 a1 k1 .char [(.int (0 : Int32))] := Y1
  show OwnDone p e below _ (T1.setTop (mkF m 3 #[.val (.int p1), .val (.int p2), .val (.long p3), .second, .val (.long p4), .second, .unset, .unset, .unset] [(.ref a1)]))
  refine OwnDone.go (A := (T1.setTop (mkF m 14 #[.val (.int p1), .val (.int p2), .val (.long p3), .second, .val (.long p4), .second, .val (.ref a1), .unset, .unset] [(.int ((p1 &&& (255 : Int32)).toUInt32.toUInt16.toUInt32.toInt32)), (.int (0 : Int32)), (.ref a1)]))) (fun tQ kQ => ?_) ?_
  · refine XS.astore P1.here hx rfl (hb hby at_3) rfl rfl (l' := #[.val (.int p1), .val (.int p2), .val (.long p3), .second, .val (.long p4), .second, .val (.ref a1), .unset, .unset]) rfl ?_
    show Steps p.tables e below (T1.setTop (mkF m 5 #[.val (.int p1), .val (.int p2), .val (.long p3), .second, .val (.long p4), .second, .val (.ref a1), .unset, .unset] [])) _
    refine XS.aload P1.here hx rfl (hb hby at_5) rfl rfl ?_
    show Steps p.tables e below (T1.setTop (mkF m 7 #[.val (.int p1), .val (.int p2), .val (.long p3), .second, .val (.long p4), .second, .val (.ref a1), .unset, .unset] [(.ref a1)])) _
    refine XS.iconst P1.here hx rfl (hb hby at_7) ?_
    show Steps p.tables e below (T1.setTop (mkF m 8 #[.val (.int p1), .val (.int p2), .val (.long p3), .second, .val (.long p4), .second, .val (.ref a1), .unset, .unset] [(.int (0 : Int32)), (.ref a1)])) _
    refine XS.iloadN P1.here hx rfl (hb hby at_8) rfl ?_
    show Steps p.tables e below (T1.setTop (mkF m 9 #[.val (.int p1), .val (.int p2), .val (.long p3), .second, .val (.long p4), .second, .val (.ref a1), .unset, .unset] [(.int p1), (.int (0 : Int32)), (.ref a1)])) _
    refine XS.sipush P1.here hx rfl (hb hby at_9) ?_
    show Steps p.tables e below (T1.setTop (mkF m 12 #[.val (.int p1), .val (.int p2), .val (.long p3), .second, .val (.long p4), .second, .val (.ref a1), .unset, .unset] [(.int (255 : Int32)), (.int p1), (.int (0 : Int32)), (.ref a1)])) _
    refine XS.iand P1.here hx rfl (hb hby at_12) rfl ?_
    show Steps p.tables e below (T1.setTop (mkF m 13 #[.val (.int p1), .val (.int p2), .val (.long p3), .second, .val (.long p4), .second, .val (.ref a1), .unset, .unset] [(.int (p1 &&& (255 : Int32))), (.int (0 : Int32)), (.ref a1)])) _
    refine XT.i2c P1.here hx rfl (hb hby at_13) rfl ?_
    show Steps p.tables e below (T1.setTop (mkF m 14 #[.val (.int p1), .val (.int p2), .val (.long p3), .second, .val (.long p4), .second, .val (.ref a1), .unset, .unset] [(.int ((p1 &&& (255 : Int32)).toUInt32.toUInt16.toUInt32.toInt32)), (.int (0 : Int32)), (.ref a1)])) _
    exact kQ
  show OwnDone p e below _ (T1.setTop (mkF m 14 #[.val (.int p1), .val (.int p2), .val (.long p3), .second, .val (.long p4), .second, .val (.ref a1), .unset, .unset] [(.int ((p1 &&& (255 : Int32)).toUInt32.toUInt16.toUInt32.toInt32)), (.int (0 : Int32)), (.ref a1)]))
  refine own_castore C P1 Y1 (by decide) (show ((0 : Int32) : Int32).toNatClampNeg < 1 from by decide) (Or.inr ge_a1) at_14 (vs' := [(.int (nar .char ((p1 &&& (255 : Int32)).toUInt32.toUInt16.toUInt32.toInt32)))]) rfl (fun T2 h2 P2 K2 Y2 => ?_)
  show OwnDone p e below _ (T2.setTop (mkF m 15 #[.val (.int p1), .val (.int p2), .val (.long p3), .second, .val (.long p4), .second, .val (.ref a1), .unset, .unset] []))
  refine own_new (vs := [.null, (.int (0 : Int32)), (.long (0 : Int64)), (.long (0 : Int64))]) C P2 (hw _ (List.mem_of_getElem? (i := 1) rfl)) (hw _ (List.mem_of_getElem? (i := 2) rfl)) (hw _ (List.mem_of_getElem? (i := 3) rfl)) (own_laid1 hw) (by decide +kernel) at_15 (by decide) (by decide) (fun T3 h3 a3 ga3 la3 P3 K3 O3 => ?_)
  have ge_a3 : h0.size ≤ a3 := by rw [ga3]; exact P2.keep.1
  have ne_a1_a3 : a1 ≠ a3 := by rw [ga3]; exact Nat.ne_of_lt Y2.lt
  have Y4_a1 := Y2.keep K3 nin0
  show OwnDone p e below _ (T3.setTop (mkF m 18 #[.val (.int p1), .val (.int p2), .val (.long p3), .second, .val (.long p4), .second, .val (.ref a1), .unset, .unset] [(.ref a3)]))
  refine OwnDone.go (A := (T3.setTop (mkF m 19 #[.val (.int p1), .val (.int p2), .val (.long p3), .second, .val (.long p4), .second, .val (.ref a1), .unset, .unset] [(.ref a3), (.ref a3)]))) (fun tQ kQ => ?_) ?_
  · refine XS.dup P3.here hx rfl (hb hby at_18) rfl rfl ?_
    show Steps p.tables e below (T3.setTop (mkF m 19 #[.val (.int p1), .val (.int p2), .val (.long p3), .second, .val (.long p4), .second, .val (.ref a1), .unset, .unset] [(.ref a3), (.ref a3)])) _
    exact kQ
  show OwnDone p e below _ (T3.setTop (mkF m 19 #[.val (.int p1), .val (.int p2), .val (.long p3), .second, .val (.long p4), .second, .val (.ref a1), .unset, .unset] [(.ref a3), (.ref a3)]))
  refine own_new (vs := [(.int (0 : Int32)), .null]) C P3 (hw _ (List.mem_of_getElem? (i := 4) rfl)) (hw _ (List.mem_of_getElem? (i := 5) rfl)) (hw _ (List.mem_of_getElem? (i := 6) rfl)) (own_laid0 hw) (by decide +kernel) at_19 (by decide) (by decide) (fun T5 h5 a5 ga5 la5 P5 K5 O5 => ?_)
  have ge_a5 : h0.size ≤ a5 := by rw [ga5]; exact P3.keep.1
  have ne_a3_a5 : a3 ≠ a5 := by rw [ga5]; exact Nat.ne_of_lt O3.lt
  have ne_a1_a5 : a1 ≠ a5 := by rw [ga5]; exact Nat.ne_of_lt Y4_a1.lt
  have O6_a3 := O3.keep K5 nin0
  have Y7_a1 := Y4_a1.keep K5 nin0
  show OwnDone p e below _ (T5.setTop (mkF m 22 #[.val (.int p1), .val (.int p2), .val (.long p3), .second, .val (.long p4), .second, .val (.ref a1), .unset, .unset] [(.ref a5), (.ref a3), (.ref a3)]))
  refine OwnDone.go (A := (T5.setTop (mkF m 25 #[.val (.int p1), .val (.int p2), .val (.long p3), .second, .val (.long p4), .second, .val (.ref a1), .unset, .unset] [(.ref a1), (.ref a5), (.ref a5), (.ref a3), (.ref a3)]))) (fun tQ kQ => ?_) ?_
  · refine XS.dup P5.here hx rfl (hb hby at_22) rfl rfl ?_
    show Steps p.tables e below (T5.setTop (mkF m 23 #[.val (.int p1), .val (.int p2), .val (.long p3), .second, .val (.long p4), .second, .val (.ref a1), .unset, .unset] [(.ref a5), (.ref a5), (.ref a3), (.ref a3)])) _
    refine XS.aload P5.here hx rfl (hb hby at_23) rfl rfl ?_
    show Steps p.tables e below (T5.setTop (mkF m 25 #[.val (.int p1), .val (.int p2), .val (.long p3), .second, .val (.long p4), .second, .val (.ref a1), .unset, .unset] [(.ref a1), (.ref a5), (.ref a5), (.ref a3), (.ref a3)])) _
    exact kQ
  show OwnDone p e below _ (T5.setTop (mkF m 25 #[.val (.int p1), .val (.int p2), .val (.long p3), .second, .val (.long p4), .second, .val (.ref a1), .unset, .unset] [(.ref a1), (.ref a5), (.ref a5), (.ref a3), (.ref a3)]))
  refine own_callI (y := (⟨"java/lang/String", "<init>", "([C)V"⟩ : MethodName)) C P5 rfl (hw _ (List.mem_of_getElem? (i := 7) rfl)) (hw _ (List.mem_of_getElem? (i := 8) rfl)) (hw _ (List.mem_of_getElem? (i := 6) rfl)) (hw _ (List.mem_of_getElem? (i := 9) rfl)) (by decide) (rm11 l Z a0 hw a5 a1 k1 (nar .char ((p1 &&& (255 : Int32)).toUInt32.toUInt16.toUInt32.toInt32)) h5 P5.old (Nat.le_trans hE.1 ge_a5) O5 Y7_a1 (Ne.symm ne_a1_a5) (own_c255n _) cs C0 C1) (as := [(.ref a1)]) (rest := [(.ref a5), (.ref a3), (.ref a3)]) pd_6 rfl rfl (wd := 3) rfl rfl at_25 (allS (Or.inr ge_a5) all0) (by decide) (by decide) (by decide) (by decide) (fun T8 h8 v8 P8 K8 hQ8 => ?_)
  obtain rfl := hQ8
  have O9_a3 := O6_a3.keep K8 (ninS ne_a3_a5 nin0)
  have Y10_a1 := Y7_a1.keep K8 (ninS ne_a1_a5 nin0)
  show OwnDone p e below _ (T8.setTop (mkF m 28 #[.val (.int p1), .val (.int p2), .val (.long p3), .second, .val (.long p4), .second, .val (.ref a1), .unset, .unset] [(.ref a5), (.ref a3), (.ref a3)]))
  refine OwnDone.go (A := (T8.setTop (mkF m 32 #[.val (.int p1), .val (.int p2), .val (.long p3), .second, .val (.long p4), .second, .val (.ref a1), .unset, .unset] [(.long p4), (.long p3), (.int p2), (.ref a5), (.ref a3), (.ref a3)]))) (fun tQ kQ => ?_) ?_
  · refine XS.iloadN P8.here hx rfl (hb hby at_28) rfl ?_
    show Steps p.tables e below (T8.setTop (mkF m 29 #[.val (.int p1), .val (.int p2), .val (.long p3), .second, .val (.long p4), .second, .val (.ref a1), .unset, .unset] [(.int p2), (.ref a5), (.ref a3), (.ref a3)])) _
    refine XT.lloadN P8.here hx rfl (hb hby at_29) rfl ?_
    show Steps p.tables e below (T8.setTop (mkF m 30 #[.val (.int p1), .val (.int p2), .val (.long p3), .second, .val (.long p4), .second, .val (.ref a1), .unset, .unset] [(.long p3), (.int p2), (.ref a5), (.ref a3), (.ref a3)])) _
    refine XT.lload P8.here hx rfl (hb hby at_30) rfl ?_
    show Steps p.tables e below (T8.setTop (mkF m 32 #[.val (.int p1), .val (.int p2), .val (.long p3), .second, .val (.long p4), .second, .val (.ref a1), .unset, .unset] [(.long p4), (.long p3), (.int p2), (.ref a5), (.ref a3), (.ref a3)])) _
    exact kQ
  show OwnDone p e below _ (T8.setTop (mkF m 32 #[.val (.int p1), .val (.int p2), .val (.long p3), .second, .val (.long p4), .second, .val (.ref a1), .unset, .unset] [(.long p4), (.long p3), (.int p2), (.ref a5), (.ref a3), (.ref a3)]))
  refine own_callI (y := (⟨"com/example/glasshouse/glasshouse/model/CoverageRun$Branch", "<init>", "(Ljava/lang/String;IJJ)V"⟩ : MethodName)) C P8 rfl (hw _ (List.mem_of_getElem? (i := 33) rfl)) (hw _ (List.mem_of_getElem? (i := 34) rfl)) (hw _ (List.mem_of_getElem? (i := 3) rfl)) (hw _ (List.mem_of_getElem? (i := 35) rfl)) (by decide) (rmin l Z a0 hw a3 a5 p2 p3 p4 h8 P8.old (Nat.le_trans hE.1 ge_a3) O9_a3) (as := [(.ref a5), (.int p2), (.long p3), (.long p4)]) (rest := [(.ref a3)]) pd_7 rfl rfl (wd := 1) rfl rfl at_32 (allS (Or.inr ge_a3) all0) (by decide) (by decide) (by decide) (by decide) (fun T11 h11 v11 P11 K11 hQ11 => ?_)
  obtain ⟨rfl, O11⟩ := hQ11
  have Y12_a1 := Y10_a1.keep K11 (ninS ne_a1_a3 nin0)
  show OwnDone p e below _ (T11.setTop (mkF m 35 #[.val (.int p1), .val (.int p2), .val (.long p3), .second, .val (.long p4), .second, .val (.ref a1), .unset, .unset] [(.ref a3)]))
  refine OwnDone.go (A := (T11.setTop (mkF m 40 #[.val (.int p1), .val (.int p2), .val (.long p3), .second, .val (.long p4), .second, .val (.ref a1), .val (.ref a3), .unset] [(.long p4), (.long p3)]))) (fun tQ kQ => ?_) ?_
  · refine XS.astore P11.here hx rfl (hb hby at_35) rfl rfl (l' := #[.val (.int p1), .val (.int p2), .val (.long p3), .second, .val (.long p4), .second, .val (.ref a1), .val (.ref a3), .unset]) rfl ?_
    show Steps p.tables e below (T11.setTop (mkF m 37 #[.val (.int p1), .val (.int p2), .val (.long p3), .second, .val (.long p4), .second, .val (.ref a1), .val (.ref a3), .unset] [])) _
    refine XT.lloadN P11.here hx rfl (hb hby at_37) rfl ?_
    show Steps p.tables e below (T11.setTop (mkF m 38 #[.val (.int p1), .val (.int p2), .val (.long p3), .second, .val (.long p4), .second, .val (.ref a1), .val (.ref a3), .unset] [(.long p3)])) _
    refine XT.lload P11.here hx rfl (hb hby at_38) rfl ?_
    show Steps p.tables e below (T11.setTop (mkF m 40 #[.val (.int p1), .val (.int p2), .val (.long p3), .second, .val (.long p4), .second, .val (.ref a1), .val (.ref a3), .unset] [(.long p4), (.long p3)])) _
    exact kQ
  show OwnDone p e below _ (T11.setTop (mkF m 40 #[.val (.int p1), .val (.int p2), .val (.long p3), .second, .val (.long p4), .second, .val (.ref a1), .val (.ref a3), .unset] [(.long p4), (.long p3)]))
  refine own_callS (y := (⟨"java/lang/Math", "max", "(JJ)J"⟩ : MethodName)) C P11 (hw _ (List.mem_of_getElem? (i := 57) rfl)) (hw _ (List.mem_of_getElem? (i := 58) rfl)) (hw _ (List.mem_of_getElem? (i := 59) rfl)) (hw _ (List.mem_of_getElem? (i := 60) rfl)) (by decide) (rmmx l Z a0 hw p3 p4 h11 P11.old) (as := [(.long p3), (.long p4)]) (rest := []) pd_8 rfl rfl (wd := 0) rfl rfl at_40 all0 (by decide) (by decide) (by decide) (by decide) (fun T13 h13 v13 P13 K13 hQ13 => ?_)
  obtain ⟨rfl, rfl⟩ := hQ13
  show OwnDone p e below _ (T13.setTop (mkF m 43 #[.val (.int p1), .val (.int p2), .val (.long p3), .second, .val (.long p4), .second, .val (.ref a1), .val (.ref a3), .unset] [(.long (if p3 < p4 then p4 else p3))]))
  refine OwnDone.go (A := (T13.setTop (mkF m 45 #[.val (.int p1), .val (.int p2), .val (.long p3), .second, .val (.long p4), .second, .val (.ref a1), .val (.ref a3), .unset] [(.int (XT.cmpL (if p3 < p4 then p4 else p3) (0 : Int64)))]))) (fun tQ kQ => ?_) ?_
  · refine XT.lconst P13.here hx rfl (hb hby at_43) ?_
    show Steps p.tables e below (T13.setTop (mkF m 44 #[.val (.int p1), .val (.int p2), .val (.long p3), .second, .val (.long p4), .second, .val (.ref a1), .val (.ref a3), .unset] [(.long (0 : Int64)), (.long (if p3 < p4 then p4 else p3))])) _
    refine XT.lcmp P13.here hx rfl (hb hby at_44) rfl ?_
    show Steps p.tables e below (T13.setTop (mkF m 45 #[.val (.int p1), .val (.int p2), .val (.long p3), .second, .val (.long p4), .second, .val (.ref a1), .val (.ref a3), .unset] [(.int (XT.cmpL (if p3 < p4 then p4 else p3) (0 : Int64)))])) _
    exact kQ
  show OwnDone p e below _ (T13.setTop (mkF m 45 #[.val (.int p1), .val (.int p2), .val (.long p3), .second, .val (.long p4), .second, .val (.ref a1), .val (.ref a3), .unset] [(.int (XT.cmpL (if p3 < p4 then p4 else p3) (0 : Int64)))]))
  suffices K14 : ∀ zz14 : Value, zz14 = (.int (if 0 < (if p3 < p4 then p4 else p3) then (1 : Int32) else 0)) → OwnDone p e below _ (T13.setTop (mkF m 53 #[.val (.int p1), .val (.int p2), .val (.long p3), .second, .val (.long p4), .second, .val (.ref a1), .val (.ref a3), .unset] [zz14])) from by
    by_cases hc45 : (0 : Int64) < (if p3 < p4 then p4 else p3)
    · refine OwnDone.go (A := (T13.setTop (mkF m 48 #[.val (.int p1), .val (.int p2), .val (.long p3), .second, .val (.long p4), .second, .val (.ref a1), .val (.ref a3), .unset] []))) (fun tQ kQ => XS.ifNo P13.here hx rfl (hb hby at_45) rfl (XT.ll_le_f hc45) kQ) ?_
      show OwnDone p e below _ (T13.setTop (mkF m 48 #[.val (.int p1), .val (.int p2), .val (.long p3), .second, .val (.long p4), .second, .val (.ref a1), .val (.ref a3), .unset] []))
      refine OwnDone.go (A := (T13.setTop (mkF m 53 #[.val (.int p1), .val (.int p2), .val (.long p3), .second, .val (.long p4), .second, .val (.ref a1), .val (.ref a3), .unset] [(.int (1 : Int32))]))) (fun tQ kQ => ?_) ?_
      · refine XS.iconst P13.here hx rfl (hb hby at_48) ?_
        show Steps p.tables e below (T13.setTop (mkF m 49 #[.val (.int p1), .val (.int p2), .val (.long p3), .second, .val (.long p4), .second, .val (.ref a1), .val (.ref a3), .unset] [(.int (1 : Int32))])) _
        refine XS.goto P13.here hx rfl (pc0 := 49) (pc' := 53) rfl (hb hby at_49) (by decide) (by decide) ?_
        show Steps p.tables e below (T13.setTop (mkF m 53 #[.val (.int p1), .val (.int p2), .val (.long p3), .second, .val (.long p4), .second, .val (.ref a1), .val (.ref a3), .unset] [(.int (1 : Int32))])) _
        exact kQ
      show OwnDone p e below _ (T13.setTop (mkF m 53 #[.val (.int p1), .val (.int p2), .val (.long p3), .second, .val (.long p4), .second, .val (.ref a1), .val (.ref a3), .unset] [(.int (1 : Int32))]))
      exact K14 _ (show ((.int (if 0 < (if p3 < p4 then p4 else p3) then (1 : Int32) else 0)) : Value) = (.int (1 : Int32)) from by simp only [hc45, if_true, if_false]).symm
    · refine OwnDone.go (A := (T13.setTop (mkF m 52 #[.val (.int p1), .val (.int p2), .val (.long p3), .second, .val (.long p4), .second, .val (.ref a1), .val (.ref a3), .unset] []))) (fun tQ kQ => XS.ifYes P13.here hx rfl (pc0 := 45) (pc' := 52) rfl (hb hby at_45) rfl (XT.ll_le_t hc45) (by decide) (by decide) kQ) ?_
      show OwnDone p e below _ (T13.setTop (mkF m 52 #[.val (.int p1), .val (.int p2), .val (.long p3), .second, .val (.long p4), .second, .val (.ref a1), .val (.ref a3), .unset] []))
      refine OwnDone.go (A := (T13.setTop (mkF m 53 #[.val (.int p1), .val (.int p2), .val (.long p3), .second, .val (.long p4), .second, .val (.ref a1), .val (.ref a3), .unset] [(.int (0 : Int32))]))) (fun tQ kQ => ?_) ?_
      · refine XS.iconst P13.here hx rfl (hb hby at_52) ?_
        show Steps p.tables e below (T13.setTop (mkF m 53 #[.val (.int p1), .val (.int p2), .val (.long p3), .second, .val (.long p4), .second, .val (.ref a1), .val (.ref a3), .unset] [(.int (0 : Int32))])) _
        exact kQ
      show OwnDone p e below _ (T13.setTop (mkF m 53 #[.val (.int p1), .val (.int p2), .val (.long p3), .second, .val (.long p4), .second, .val (.ref a1), .val (.ref a3), .unset] [(.int (0 : Int32))]))
      exact K14 _ (show ((.int (if 0 < (if p3 < p4 then p4 else p3) then (1 : Int32) else 0)) : Value) = (.int (0 : Int32)) from by simp only [hc45, if_true, if_false]).symm
  intro zz14 hzz14
  subst hzz14
  show OwnDone p e below _ (T13.setTop (mkF m 53 #[.val (.int p1), .val (.int p2), .val (.long p3), .second, .val (.long p4), .second, .val (.ref a1), .val (.ref a3), .unset] [(.int (if 0 < (if p3 < p4 then p4 else p3) then (1 : Int32) else 0))]))
  refine OwnDone.go (A := (T13.setTop (mkF m 57 #[.val (.int p1), .val (.int p2), .val (.long p3), .second, .val (.long p4), .second, .val (.ref a1), .val (.ref a3), .val (.int (if 0 < (if p3 < p4 then p4 else p3) then (1 : Int32) else 0))] [(.ref a3)]))) (fun tQ kQ => ?_) ?_
  · refine XS.istore P13.here hx rfl (hb hby at_53) rfl (l' := #[.val (.int p1), .val (.int p2), .val (.long p3), .second, .val (.long p4), .second, .val (.ref a1), .val (.ref a3), .val (.int (if 0 < (if p3 < p4 then p4 else p3) then (1 : Int32) else 0))]) rfl ?_
    show Steps p.tables e below (T13.setTop (mkF m 55 #[.val (.int p1), .val (.int p2), .val (.long p3), .second, .val (.long p4), .second, .val (.ref a1), .val (.ref a3), .val (.int (if 0 < (if p3 < p4 then p4 else p3) then (1 : Int32) else 0))] [])) _
    refine XS.aload P13.here hx rfl (hb hby at_55) rfl rfl ?_
    show Steps p.tables e below (T13.setTop (mkF m 57 #[.val (.int p1), .val (.int p2), .val (.long p3), .second, .val (.long p4), .second, .val (.ref a1), .val (.ref a3), .val (.int (if 0 < (if p3 < p4 then p4 else p3) then (1 : Int32) else 0))] [(.ref a3)])) _
    exact kQ
  show OwnDone p e below _ (T13.setTop (mkF m 57 #[.val (.int p1), .val (.int p2), .val (.long p3), .second, .val (.long p4), .second, .val (.ref a1), .val (.ref a3), .val (.int (if 0 < (if p3 < p4 then p4 else p3) then (1 : Int32) else 0))] [(.ref a3)]))
  refine own_callV (y := (⟨"com/example/glasshouse/glasshouse/model/CoverageRun$Branch", "tested", "()Z"⟩ : MethodName)) (z := (⟨"com/example/glasshouse/glasshouse/model/CoverageRun$Branch", "tested", "()Z"⟩ : MethodName)) (CC := "com/example/glasshouse/glasshouse/model/CoverageRun$Branch") C P13 O11.1 (hw _ (List.mem_of_getElem? (i := 61) rfl)) (hw _ (List.mem_of_getElem? (i := 62) rfl)) (hw _ (List.mem_of_getElem? (i := 64) rfl)) (hw _ (List.mem_of_getElem? (i := 64) rfl)) (hw _ (List.mem_of_getElem? (i := 63) rfl)) (hw _ (List.mem_of_getElem? (i := 3) rfl)) (hw _ (List.mem_of_getElem? (i := 65) rfl)) (by decide) (rmts l Z a0 hw a3 a5 p2 p3 p4 h11 P13.old O11) (as := []) (rest := []) pd_9 rfl rfl (wd := 0) rfl rfl at_57 all0 (by decide) (by decide) (by decide) (by decide) (fun T15 h15 v15 P15 K15 hQ15 => ?_)
  obtain ⟨rfl, rfl⟩ := hQ15
  show OwnDone p e below _ (T15.setTop (mkF m 60 #[.val (.int p1), .val (.int p2), .val (.long p3), .second, .val (.long p4), .second, .val (.ref a1), .val (.ref a3), .val (.int (if 0 < (if p3 < p4 then p4 else p3) then (1 : Int32) else 0))] [(.int (if 0 < p3 ∨ 0 < p4 then (1 : Int32) else 0))]))
  refine OwnDone.go (A := (T15.setTop (mkF m 62 #[.val (.int p1), .val (.int p2), .val (.long p3), .second, .val (.long p4), .second, .val (.ref a1), .val (.ref a3), .val (.int (if 0 < (if p3 < p4 then p4 else p3) then (1 : Int32) else 0))] [(.int (if 0 < (if p3 < p4 then p4 else p3) then (1 : Int32) else 0)), (.int (if 0 < p3 ∨ 0 < p4 then (1 : Int32) else 0))]))) (fun tQ kQ => ?_) ?_
  · refine XS.iload P15.here hx rfl (hb hby at_60) rfl ?_
    show Steps p.tables e below (T15.setTop (mkF m 62 #[.val (.int p1), .val (.int p2), .val (.long p3), .second, .val (.long p4), .second, .val (.ref a1), .val (.ref a3), .val (.int (if 0 < (if p3 < p4 then p4 else p3) then (1 : Int32) else 0))] [(.int (if 0 < (if p3 < p4 then p4 else p3) then (1 : Int32) else 0)), (.int (if 0 < p3 ∨ 0 < p4 then (1 : Int32) else 0))])) _
    exact kQ
  show OwnDone p e below _ (T15.setTop (mkF m 62 #[.val (.int p1), .val (.int p2), .val (.long p3), .second, .val (.long p4), .second, .val (.ref a1), .val (.ref a3), .val (.int (if 0 < (if p3 < p4 then p4 else p3) then (1 : Int32) else 0))] [(.int (if 0 < (if p3 < p4 then p4 else p3) then (1 : Int32) else 0)), (.int (if 0 < p3 ∨ 0 < p4 then (1 : Int32) else 0))]))
  refine OwnDone.go (A := (T15.setTop (mkF m 65 #[.val (.int p1), .val (.int p2), .val (.long p3), .second, .val (.long p4), .second, .val (.ref a1), .val (.ref a3), .val (.int (if 0 < (if p3 < p4 then p4 else p3) then (1 : Int32) else 0))] []))) (fun tQ kQ => XS.icmpNo P15.here hx rfl (hb hby at_62) rfl (XT.ii_ne_f (own_max p3 p4)) kQ) ?_
  show OwnDone p e below _ (T15.setTop (mkF m 65 #[.val (.int p1), .val (.int p2), .val (.long p3), .second, .val (.long p4), .second, .val (.ref a1), .val (.ref a3), .val (.int (if 0 < (if p3 < p4 then p4 else p3) then (1 : Int32) else 0))] []))
  refine OwnDone.go (A := (T15.setTop (mkF m 70 #[.val (.int p1), .val (.int p2), .val (.long p3), .second, .val (.long p4), .second, .val (.ref a1), .val (.ref a3), .val (.int (if 0 < (if p3 < p4 then p4 else p3) then (1 : Int32) else 0))] [(.int (1 : Int32))]))) (fun tQ kQ => ?_) ?_
  · refine XS.iconst P15.here hx rfl (hb hby at_65) ?_
    show Steps p.tables e below (T15.setTop (mkF m 66 #[.val (.int p1), .val (.int p2), .val (.long p3), .second, .val (.long p4), .second, .val (.ref a1), .val (.ref a3), .val (.int (if 0 < (if p3 < p4 then p4 else p3) then (1 : Int32) else 0))] [(.int (1 : Int32))])) _
    refine XS.goto P15.here hx rfl (pc0 := 66) (pc' := 70) rfl (hb hby at_66) (by decide) (by decide) ?_
    show Steps p.tables e below (T15.setTop (mkF m 70 #[.val (.int p1), .val (.int p2), .val (.long p3), .second, .val (.long p4), .second, .val (.ref a1), .val (.ref a3), .val (.int (if 0 < (if p3 < p4 then p4 else p3) then (1 : Int32) else 0))] [(.int (1 : Int32))])) _
    exact kQ
  show OwnDone p e below _ (T15.setTop (mkF m 70 #[.val (.int p1), .val (.int p2), .val (.long p3), .second, .val (.long p4), .second, .val (.ref a1), .val (.ref a3), .val (.int (if 0 < (if p3 < p4 then p4 else p3) then (1 : Int32) else 0))] [(.int (1 : Int32))]))
  refine own_retN C P15 (by simp) (z' := (1 : Int32)) (by decide) at_70 (by decide) (by decide) rfl
set_option maxRecDepth 65536 in
set_option maxHeartbeats 40000000 in
theorem comes_1 {Post : Tables → Env → Array Value → State → Outcome → State → Prop} (hpost : ∀ tb e args s v u, (limb_1_1.after args s (.returned v) u = true ∧ limb_1_2.after args s (.returned v) u = true ∧ True) → ReturnedEndW s (.returned v) u (Jvm.fieldLocs frame_1_writes args s ++ Jvm.arrayLocs frame_1_arrays args s ++ Jvm.staticLocs frame_1_statics s) 24 1152 → Post tb e args s (.returned v) u) :
    ArmFor flags0 classFile x code maxLocals ret World_1 tables_1 room_1 Calls_1 rest_1 Pre_1 Post := by
  intro l hfl _ _ p e ha hc hk s m args below hf hA hF happ hP
  obtain ⟨hcalls, hrest, hpre⟩ := hP
  obtain ⟨-, -, -, hnamed, -, -, -, hat⟩ := (Spec.applies_iff hf).mp happ
  obtain ⟨hg, hn⟩ := and_e (Cond.before_iff.mp (show (Jvm.Cond.and given_1 narrow_1).before args s = true from hpre))
  obtain ⟨hcount, hg⟩ := and_e hg
  obtain ⟨w0, w1, w2, w3, rfl⟩ : ∃ w0 w1 w2 w3 : Value, args = #[w0, w1, w2, w3] := by
    have hs : args.size = 4 := by simpa [Cond.value, given_1] using hcount
    obtain ⟨L⟩ := args
    match L, hs with
    | [w0, w1, w2, w3], _ => exact ⟨w0, w1, w2, w3, rfl⟩
  have hw := fun d (hd : d ∈ tables_1) => atoms_spec (ws := Jvm.Cond.code x code maxLocals ret :: tables_1) hat d (List.mem_cons_of_mem _ hd)
  have hfit : Fit s := fun {y c} hc i hi => by
    obtain ⟨ha, rfl⟩ := Array.getElem?_eq_some_iff.mp hc
    have q := List.all_eq_true.mp ((Array.all_eq_true_iff_forall_mem.mp hF) _ (Array.getElem_mem ha)) i (List.mem_range.mpr hi)
    simpa [Array.getElem?_eq_getElem hi] using q
  obtain ⟨hg0, hg⟩ := and_e hg
  obtain ⟨i0, ei0⟩ := is_v hg0
  obtain rfl : w0 = (.int i0) := Option.some.inj ei0
  obtain ⟨hg1, hg⟩ := and_e hg
  obtain ⟨i1, ei1⟩ := is_v hg1
  obtain rfl : w1 = (.int i1) := Option.some.inj ei1
  obtain ⟨hg2, hg⟩ := and_e hg
  obtain ⟨i2, ei2⟩ := isL_v hg2
  obtain rfl : w2 = (.long i2) := Option.some.inj ei2
  obtain ⟨i3, ei3⟩ := isL_v hg
  obtain rfl : w3 = (.long i3) := Option.some.inj ei3
  obtain ⟨hsets, hown0⟩ := atoms_of _ (rest_1_c_eq ▸ (show rest_1_c.before _ s = true from hrest))
  have nc := not_v (Cond.before_iff.mp (hsets _ (List.mem_of_getElem? (i := 2) rfl)))
  obtain ⟨cs, ec⟩ := is_v (Cond.before_iff.mp (hsets _ (List.mem_of_getElem? (i := 1) rfl)))
  have C0 : Sta s s.heap "java/lang/String" "COMPACT_STRINGS" "Z" (.int cs) := Sta.start ec (Or.inl (hsets _ (List.mem_of_getElem? (i := 0) rfl)))
  have C1 : ¬ (cs = (0 : Int32)) := gotF (Cond.eq_ints ec (Term.int_eval (0))) nc
  obtain ⟨n, o, h1, h2, h3, _, L, rfl, ⟨rfl, -, N⟩, hq⟩ := rm0 l s _ hw i0 i1 i2 i3 s.heap ⟨Nat.le_refl _, fun _ _ q => q⟩ cs C0 C1 tables_1 p e ha hc hk s m _ below hf ((Spec.applies_iff_loose hf).mp happ).1 ⟨rfl, State.Warmed39.refl s, rfl⟩ trivial
  refine ⟨n, _, h1, h2, h3, hpost _ _ _ _ _ _ ⟨Cond.after_iff.mpr rfl, Cond.after_iff.mpr (eq_i res_at (Term.int_eval (1)) rfl), trivial⟩ ⟨hq.1, hq.2.1, hq.2.2.1, (hq.2.2.2.sift fun y hy => Or.inr ((N y hy).elim (fun q => (nomatch q)) id)).mono (by decide) (by decide)⟩⟩
theorem main_1_1 : Claimed_1_1 := comes_1 fun _ _ _ _ _ _ h hF => ⟨h.1, hF⟩
theorem main_1_2 : Claimed_1_2 := comes_1 fun _ _ _ _ _ _ h hF => ⟨h.2.1, hF⟩
end Jvm.Pilot.@@N@@
namespace Jvm.Pilot.@@N@@
open Jvm Jvm.ClassFile Sem Op Lib Jvm.Free Jvm.Stand Jvm.Pilot.@@N@@.Jvm.D
/-! MADE BY PROGRAM (witnessworld.py) out of the Statement's table words and the real class files: 23 classes; the members and pool entries that the words name. The judged class is class 1, her method 1. -/
namespace start1
open Jvm.ClassFile
def u (s : String) : CpInfo := .utf8 (stringToUtf16 s)
/-- a pool by its gaps: so many unusable entries, then the entry; so many at the end -/
def gap : Nat → List CpInfo → List CpInfo
  | 0, r => r
  | n + 1, r => .unusable :: gap n r
def poolList (es : List (Nat × CpInfo)) (last : Nat) : List CpInfo := es.foldr (fun e r => gap e.1 (e.2 :: r)) (gap last [])
def pool (es : List (Nat × CpInfo)) (last : Nat) : Array CpInfo := ⟨poolList es last⟩
def fileOf (pool : Array CpInfo) (this : Nat) (attrs : Array Attribute := #[]) (ms : Array MethodInfo := #[]) (fl : Nat := 33) (sup : Nat := 0) (ifs : Array Nat := #[]) (fds : Array FieldInfo := #[]) : ClassFile where
  minorVersion := 0
  majorVersion := 65
  constantPool := pool
  accessFlags := fl
  thisClass := this
  superClass := sup
  interfaces := ifs
  fields := fds
  methods := ms
  attributes := attrs
def plain (name : String) (sup : Option ClassId) : Class where
  name := name
  kind := .ordinary
  loader := none
  accessFlags := 33
  super := sup
  interfaces := #[]
  cf := none
  fields := #[]
  methods := #[]
  instanceTypes := #[]
  staticTypes := #[]
  resolved := #[]
  callSites := []
  init := .initialized
  statics := none
  mirror := none

def pool0 : Array CpInfo := pool [(5, u "<init>"), (0, u "()V"), (1, .class_ 10), (1, u "java/lang/Object")] 113

def k0c0 : Code := { maxStack := 0, maxLocals := 1, code := object_method_1_code, exceptionTable := #[], attributes := #[] }
def k0m0 : Method := { name := "<init>", desc := "()V", sig := { parameters := [], returnType := none }, accessFlags := 1, code := some k0c0 }
/-- java/lang/Object -/
def k0 : Class := { plain "java/lang/Object" none with
  accessFlags := 33
  interfaces := #[]
  cf := some (fileOf pool0 8 #[] #[{ accessFlags := 1, nameIndex := 5, descriptorIndex := 6, attributes := #[] }] 33 0 #[] #[])
  fields := #[]
  methods := #[k0m0]
  instanceTypes := #[]
  staticTypes := #[]
  resolved := Array.replicate 124 none
  statics := none }

def pool1 : Array CpInfo := pool [(2, .class_ 4), (1, u "java/lang/Object"), (0, u "<init>"), (0, u "()V"), (0, .class_ 8), (0, u "com/example/glasshouse/glasshouse/model/CoverageRun$Branch"), (0, .class_ 10), (0, u "java/lang/String"), (0, .methodref 9 12), (0, .nameAndType 5 13), (0, u "([C)V"), (0, .methodref 7 15), (0, .nameAndType 5 16), (0, u "(Ljava/lang/String;IJJ)V"), (0, .methodref 18 19), (0, .class_ 20), (0, .nameAndType 21 22), (0, u "java/lang/Math"), (0, u "max"), (0, u "(JJ)J"), (0, .methodref 7 24), (0, .nameAndType 25 26), (0, u "tested"), (0, u "()Z"), (0, .class_ 28), (0, u "com/example/glasshouse/glasshouse/model/BranchTestedPinLaw"), (2, u "law"), (0, u "(IIJJ)Z")] 9

def k1m0 : Method := { name := "<init>", desc := "()V", sig := { parameters := [], returnType := none }, accessFlags := 1, code := none }
def k1c1 : Code := { maxStack := 8, maxLocals := 9, code := code, exceptionTable := #[], attributes := #[] }
def k1m1 : Method := { name := "law", desc := "(IIJJ)Z", sig := { parameters := [.int, .int, .long, .long], returnType := some .boolean }, accessFlags := 9, code := some k1c1 }
/-- com/example/glasshouse/glasshouse/model/BranchTestedPinLaw -/
def k1 : Class := { plain "com/example/glasshouse/glasshouse/model/BranchTestedPinLaw" (some 0) with
  accessFlags := 49
  interfaces := #[]
  cf := some (fileOf pool1 27 #[] #[{ accessFlags := 1, nameIndex := 5, descriptorIndex := 6, attributes := #[] }, { accessFlags := 9, nameIndex := 31, descriptorIndex := 32, attributes := #[] }] 49 2 #[] #[])
  fields := #[]
  methods := #[k1m0, k1m1]
  instanceTypes := #[]
  staticTypes := #[]
  resolved := Array.replicate 42 none
  statics := none }

def pool2 : Array CpInfo := pool [(1, .methodref 2 3), (0, .class_ 4), (0, .nameAndType 5 6), (0, u "java/lang/Object"), (0, u "<init>"), (0, u "()V"), (0, .class_ 8), (0, u "java/lang/Record")] 13

def k2c0 : Code := { maxStack := 1, maxLocals := 1, code := jdk_30_method_1_code, exceptionTable := #[], attributes := #[] }
def k2m0 : Method := { name := "<init>", desc := "()V", sig := { parameters := [], returnType := none }, accessFlags := 4, code := some k2c0 }
/-- java/lang/Record -/
def k2 : Class := { plain "java/lang/Record" (some 0) with
  accessFlags := 1057
  interfaces := #[]
  cf := some (fileOf pool2 7 #[] #[{ accessFlags := 4, nameIndex := 5, descriptorIndex := 6, attributes := #[] }] 1057 2 #[] #[])
  fields := #[]
  methods := #[k2m0]
  instanceTypes := #[]
  staticTypes := #[]
  resolved := Array.replicate 22 none
  statics := none }

def pool3 : Array CpInfo := pool [(1, .methodref 2 3), (0, .class_ 4), (0, .nameAndType 5 6), (0, u "java/lang/Record"), (0, u "<init>"), (0, u "()V"), (0, .string 8), (0, u "member"), (0, .methodref 10 11), (0, .class_ 12), (0, .nameAndType 13 14), (0, u "java/util/Objects"), (0, u "requireNonNull"), (0, u "(Ljava/lang/Object;Ljava/lang/String;)Ljava/lang/Object;"), (0, .fieldref 16 17), (0, .class_ 18), (0, .nameAndType 8 19), (0, u "com/example/glasshouse/glasshouse/model/CoverageRun$Branch"), (0, u "Ljava/lang/String;"), (0, .fieldref 16 21), (0, .nameAndType 22 23), (0, u "line"), (0, u "I"), (0, .fieldref 16 25), (0, .nameAndType 26 27), (0, u "trueCount"), (0, u "J"), (0, .fieldref 16 29), (0, .nameAndType 30 27), (0, u "falseCount"), (12, u "(Ljava/lang/String;IJJ)V"), (3, u "tested"), (0, u "()Z"), (8, .class_ 58), (0, u "com/example/glasshouse/glasshouse/model/CoverageRun")] 22

def k3c0 : Code := { maxStack := 3, maxLocals := 7, code := prog_142_method_1_code, exceptionTable := #[], attributes := #[] }
def k3m0 : Method := { name := "<init>", desc := "(Ljava/lang/String;IJJ)V", sig := { parameters := [(.object "java/lang/String"), .int, .long, .long], returnType := none }, accessFlags := 1, code := some k3c0 }
def k3c1 : Code := { maxStack := 4, maxLocals := 1, code := prog_142_method_2_code, exceptionTable := #[], attributes := #[] }
def k3m1 : Method := { name := "tested", desc := "()Z", sig := { parameters := [], returnType := some .boolean }, accessFlags := 1, code := some k3c1 }
/-- com/example/glasshouse/glasshouse/model/CoverageRun$Branch -/
def k3 : Class := { plain "com/example/glasshouse/glasshouse/model/CoverageRun$Branch" (some 2) with
  accessFlags := 49
  interfaces := #[]
  cf := some (fileOf pool3 16 #[.nestHost 57] #[{ accessFlags := 1, nameIndex := 5, descriptorIndex := 43, attributes := #[] }, { accessFlags := 1, nameIndex := 47, descriptorIndex := 48, attributes := #[] }] 49 2 #[] #[{ accessFlags := 18, nameIndex := 8, descriptorIndex := 19, attributes := #[] }, { accessFlags := 18, nameIndex := 22, descriptorIndex := 23, attributes := #[] }, { accessFlags := 18, nameIndex := 26, descriptorIndex := 27, attributes := #[] }, { accessFlags := 18, nameIndex := 30, descriptorIndex := 27, attributes := #[] }])
  fields := #[{ name := "member", type := (.object "java/lang/String"), accessFlags := 18, slot := 0, constantValue := 0 }, { name := "line", type := .int, accessFlags := 18, slot := 1, constantValue := 0 }, { name := "trueCount", type := .long, accessFlags := 18, slot := 2, constantValue := 0 }, { name := "falseCount", type := .long, accessFlags := 18, slot := 3, constantValue := 0 }]
  methods := #[k3m0, k3m1]
  instanceTypes := #[(.object "java/lang/String"), .int, .long, .long]
  staticTypes := #[]
  resolved := Array.replicate 81 none
  statics := none }

def pool4 : Array CpInfo := pool [(1, .class_ 2), (0, u "java/io/Serializable"), (0, .class_ 4), (0, u "java/lang/Object")] 2

/-- java/io/Serializable -/
def k4 : Class := { plain "java/io/Serializable" (some 0) with
  accessFlags := 1537
  interfaces := #[]
  cf := some (fileOf pool4 1 #[] #[] 1537 3 #[] #[])
  fields := #[]
  methods := #[]
  instanceTypes := #[]
  staticTypes := #[]
  resolved := Array.replicate 7 none
  statics := none }

def pool5 : Array CpInfo := pool [(1, .class_ 2), (0, u "java/lang/Comparable"), (0, .class_ 4), (0, u "java/lang/Object")] 7

/-- java/lang/Comparable -/
def k5 : Class := { plain "java/lang/Comparable" (some 0) with
  accessFlags := 1537
  interfaces := #[]
  cf := some (fileOf pool5 1 #[] #[] 1537 3 #[] #[])
  fields := #[]
  methods := #[]
  instanceTypes := #[]
  staticTypes := #[]
  resolved := Array.replicate 12 none
  statics := none }

def pool6 : Array CpInfo := pool [(2, .class_ 4), (1, u "java/lang/CharSequence"), (42, .class_ 48), (0, u "java/lang/CharSequence$1CodePointIterator"), (10, .class_ 60), (0, u "java/lang/CharSequence$1CharIterator"), (5, .class_ 67), (0, u "java/lang/Object")] 63

/-- java/lang/CharSequence -/
def k6 : Class := { plain "java/lang/CharSequence" (some 0) with
  accessFlags := 1537
  interfaces := #[]
  cf := some (fileOf pool6 2 #[.nestMembers #[47, 59]] #[] 1537 66 #[] #[])
  fields := #[]
  methods := #[]
  instanceTypes := #[]
  staticTypes := #[]
  resolved := Array.replicate 131 none
  statics := none }

def pool7 : Array CpInfo := pool [(1, .class_ 2), (0, u "java/lang/constant/Constable"), (0, .class_ 4), (0, u "java/lang/Object")] 6

/-- java/lang/constant/Constable -/
def k7 : Class := { plain "java/lang/constant/Constable" (some 0) with
  accessFlags := 1537
  interfaces := #[]
  cf := some (fileOf pool7 1 #[] #[] 1537 3 #[] #[])
  fields := #[]
  methods := #[]
  instanceTypes := #[]
  staticTypes := #[]
  resolved := Array.replicate 11 none
  statics := none }

def pool8 : Array CpInfo := pool [(1, .class_ 2), (0, u "java/lang/constant/ConstantDesc"), (0, .class_ 4), (0, u "java/lang/Object")] 32

/-- java/lang/constant/ConstantDesc -/
def k8 : Class := { plain "java/lang/constant/ConstantDesc" (some 0) with
  accessFlags := 1537
  interfaces := #[]
  cf := some (fileOf pool8 1 #[] #[] 1537 3 #[] #[])
  fields := #[]
  methods := #[]
  instanceTypes := #[]
  staticTypes := #[]
  resolved := Array.replicate 37 none
  statics := none }

def pool9 : Array CpInfo := pool [(1, .methodref 2 3), (0, .class_ 4), (0, .nameAndType 5 6), (0, u "java/lang/Object"), (0, u "<init>"), (0, u "()V"), (2, .fieldref 10 11), (0, .class_ 12), (0, .nameAndType 13 14), (0, u "java/lang/String"), (0, u "value"), (0, u "[B"), (0, .fieldref 10 16), (0, .nameAndType 17 18), (0, u "coder"), (0, u "B"), (2, u "hash"), (0, u "I"), (2, u "hashIsZero"), (0, u "Z"), (0, .methodref 10 28), (0, .nameAndType 5 29), (0, u "([CIILjava/lang/Void;)V"), (8, .fieldref 10 39), (0, .nameAndType 40 26), (0, u "COMPACT_STRINGS"), (1, .class_ 44), (1, u "java/lang/StringUTF16"), (0, u "compress"), (1, .methodref 42 48), (0, .nameAndType 49 50), (0, u "coderFromArrayLen"), (0, u "([BI)B"), (126, .methodref 42 178), (0, .nameAndType 45 179), (0, u "([CII)[B"), (395, .class_ 576), (0, u "java/lang/CharSequence"), (22, u "CASE_INSENSITIVE_ORDER"), (0, u "Ljava/util/Comparator;"), (409, u "([C)V"), (90, u "serialPersistentFields"), (0, u "[Ljava/io/ObjectStreamField;"), (0, .class_ 1104), (0, u "java/lang/String$CaseInsensitiveComparator"), (1, .class_ 1107), (0, u "java/io/Serializable"), (0, .class_ 1109), (0, u "java/lang/Comparable"), (0, .class_ 1111), (0, u "java/lang/constant/Constable"), (0, .class_ 1113), (0, u "java/lang/constant/ConstantDesc"), (2, u "serialVersionUID"), (0, u "J"), (3, u "REPL"), (0, u "C"), (2, u "LATIN1"), (1, u "UTF16")] 323

def k9m0 : Method := { name := "<init>", desc := "()V", sig := { parameters := [], returnType := none }, accessFlags := 1, code := none }
def k9c1 : Code := { maxStack := 5, maxLocals := 2, code := jdk_42_method_3_code, exceptionTable := #[], attributes := #[] }
def k9m1 : Method := { name := "<init>", desc := "([C)V", sig := { parameters := [(.array .char)], returnType := none }, accessFlags := 1, code := some k9c1 }
def k9c2 : Code := { maxStack := 4, maxLocals := 6, code := jdk_42_method_149_code, exceptionTable := #[], attributes := #[] }
def k9m2 : Method := { name := "<init>", desc := "([CIILjava/lang/Void;)V", sig := { parameters := [(.array .char), .int, .int, (.object "java/lang/Void")], returnType := none }, accessFlags := 2, code := some k9c2 }
/-- java/lang/String -/
def k9 : Class := { plain "java/lang/String" (some 0) with
  accessFlags := 49
  interfaces := #[4, 5, 6, 7, 8]
  cf := some (fileOf pool9 10 #[.nestMembers #[1103]] #[{ accessFlags := 1, nameIndex := 5, descriptorIndex := 6, attributes := #[] }, { accessFlags := 1, nameIndex := 5, descriptorIndex := 1010, attributes := #[] }, { accessFlags := 2, nameIndex := 5, descriptorIndex := 29, attributes := #[] }] 49 2 #[1106, 1108, 575, 1110, 1112] #[{ accessFlags := 18, nameIndex := 13, descriptorIndex := 14, attributes := #[] }, { accessFlags := 18, nameIndex := 17, descriptorIndex := 18, attributes := #[] }, { accessFlags := 2, nameIndex := 21, descriptorIndex := 22, attributes := #[] }, { accessFlags := 2, nameIndex := 25, descriptorIndex := 26, attributes := #[] }, { accessFlags := 26, nameIndex := 1116, descriptorIndex := 1117, attributes := #[] }, { accessFlags := 24, nameIndex := 40, descriptorIndex := 26, attributes := #[] }, { accessFlags := 26, nameIndex := 1101, descriptorIndex := 1102, attributes := #[] }, { accessFlags := 26, nameIndex := 1121, descriptorIndex := 1122, attributes := #[] }, { accessFlags := 25, nameIndex := 599, descriptorIndex := 600, attributes := #[] }, { accessFlags := 24, nameIndex := 1125, descriptorIndex := 18, attributes := #[] }, { accessFlags := 24, nameIndex := 1127, descriptorIndex := 18, attributes := #[] }])
  fields := #[{ name := "value", type := (.array .byte), accessFlags := 18, slot := 0, constantValue := 0 }, { name := "coder", type := .byte, accessFlags := 18, slot := 1, constantValue := 0 }, { name := "hash", type := .int, accessFlags := 2, slot := 2, constantValue := 0 }, { name := "hashIsZero", type := .boolean, accessFlags := 2, slot := 3, constantValue := 0 }, { name := "serialVersionUID", type := .long, accessFlags := 26, slot := 0, constantValue := 0 }, { name := "COMPACT_STRINGS", type := .boolean, accessFlags := 24, slot := 1, constantValue := 0 }, { name := "serialPersistentFields", type := (.array (.object "java/io/ObjectStreamField")), accessFlags := 26, slot := 2, constantValue := 0 }, { name := "REPL", type := .char, accessFlags := 26, slot := 3, constantValue := 0 }, { name := "CASE_INSENSITIVE_ORDER", type := (.object "java/util/Comparator"), accessFlags := 25, slot := 4, constantValue := 0 }, { name := "LATIN1", type := .byte, accessFlags := 24, slot := 5, constantValue := 0 }, { name := "UTF16", type := .byte, accessFlags := 24, slot := 6, constantValue := 0 }]
  methods := #[k9m0, k9m1, k9m2]
  instanceTypes := #[(.array .byte), .byte, .int, .boolean]
  staticTypes := #[.long, .boolean, (.array (.object "java/io/ObjectStreamField")), .char, (.object "java/util/Comparator"), .byte, .byte]
  resolved := Array.replicate 1451 none
  statics := some 0 }

def pool10 : Array CpInfo := pool [(6, .class_ 8), (1, u "java/lang/Object"), (0, u "<init>"), (0, u "()V"), (1, .class_ 14), (1, u "java/lang/StringUTF16"), (31, u "$assertionsDisabled"), (0, u "Z"), (13, u "HI_BYTE_SHIFT"), (0, u "I"), (2, u "LO_BYTE_SHIFT"), (49, .methodref 12 116), (0, .nameAndType 117 118), (0, u "compress"), (0, u "([CI[BII)I"), (3, u "([CII)[B"), (138, u "coderFromArrayLen"), (0, u "([BI)B"), (106, .class_ 371), (1, u "java/lang/StringUTF16$LinesSpliterator"), (58, u "MAX_LENGTH"), (196, .class_ 628), (0, u "java/lang/StringUTF16$CodePointsSpliterator"), (0, .class_ 630), (0, u "java/lang/StringUTF16$CharsSpliterator")] 4

def k10m0 : Method := { name := "<init>", desc := "()V", sig := { parameters := [], returnType := none }, accessFlags := 0, code := none }
def k10c1 : Code := { maxStack := 2, maxLocals := 2, code := jdk_52_method_15_code, exceptionTable := #[], attributes := #[] }
def k10m1 : Method := { name := "coderFromArrayLen", desc := "([BI)B", sig := { parameters := [(.array .byte), .int], returnType := some .byte }, accessFlags := 8, code := some k10c1 }
def k10c2 : Code := { maxStack := 5, maxLocals := 6, code := jdk_52_method_16_code, exceptionTable := #[], attributes := #[] }
def k10m2 : Method := { name := "compress", desc := "([CII)[B", sig := { parameters := [(.array .char), .int, .int], returnType := some (.array .byte) }, accessFlags := 9, code := some k10c2 }
def k10c3 : Code := { maxStack := 3, maxLocals := 7, code := jdk_52_method_21_code, exceptionTable := #[], attributes := #[] }
def k10m3 : Method := { name := "compress", desc := "([CI[BII)I", sig := { parameters := [(.array .char), .int, (.array .byte), .int, .int], returnType := some .int }, accessFlags := 9, code := some k10c3 }
/-- java/lang/StringUTF16 -/
def k10 : Class := { plain "java/lang/StringUTF16" (some 0) with
  accessFlags := 48
  interfaces := #[]
  cf := some (fileOf pool10 12 #[.nestMembers #[627, 629, 369]] #[{ accessFlags := 0, nameIndex := 9, descriptorIndex := 10, attributes := #[] }, { accessFlags := 8, nameIndex := 261, descriptorIndex := 262, attributes := #[] }, { accessFlags := 9, nameIndex := 117, descriptorIndex := 122, attributes := #[] }, { accessFlags := 9, nameIndex := 117, descriptorIndex := 118, attributes := #[] }] 48 6 #[] #[{ accessFlags := 26, nameIndex := 61, descriptorIndex := 62, attributes := #[] }, { accessFlags := 26, nameIndex := 65, descriptorIndex := 62, attributes := #[] }, { accessFlags := 24, nameIndex := 430, descriptorIndex := 62, attributes := #[] }, { accessFlags := 4120, nameIndex := 46, descriptorIndex := 47, attributes := #[] }])
  fields := #[{ name := "HI_BYTE_SHIFT", type := .int, accessFlags := 26, slot := 0, constantValue := 0 }, { name := "LO_BYTE_SHIFT", type := .int, accessFlags := 26, slot := 1, constantValue := 0 }, { name := "MAX_LENGTH", type := .int, accessFlags := 24, slot := 2, constantValue := 0 }, { name := "$assertionsDisabled", type := .boolean, accessFlags := 4120, slot := 3, constantValue := 0 }]
  methods := #[k10m0, k10m1, k10m2, k10m3]
  instanceTypes := #[]
  staticTypes := #[.int, .int, .int, .boolean]
  resolved := Array.replicate 635 none
  statics := none }

def pool11 : Array CpInfo := pool [(2, .class_ 4), (1, u "java/lang/Object"), (0, u "<init>"), (0, u "()V"), (35, .class_ 44), (1, u "java/util/Objects"), (0, u "requireNonNull"), (48, u "(Ljava/lang/Object;Ljava/lang/String;)Ljava/lang/Object;")] 89

def k11m0 : Method := { name := "<init>", desc := "()V", sig := { parameters := [], returnType := none }, accessFlags := 2, code := none }
def k11c1 : Code := { maxStack := 3, maxLocals := 2, code := jdk_31_method_11_code, exceptionTable := #[], attributes := #[] }
def k11m1 : Method := { name := "requireNonNull", desc := "(Ljava/lang/Object;Ljava/lang/String;)Ljava/lang/Object;", sig := { parameters := [(.object "java/lang/Object"), (.object "java/lang/String")], returnType := some (.object "java/lang/Object") }, accessFlags := 9, code := some k11c1 }
/-- java/util/Objects -/
def k11 : Class := { plain "java/util/Objects" (some 0) with
  accessFlags := 49
  interfaces := #[]
  cf := some (fileOf pool11 42 #[] #[{ accessFlags := 2, nameIndex := 5, descriptorIndex := 6, attributes := #[] }, { accessFlags := 9, nameIndex := 45, descriptorIndex := 94, attributes := #[] }] 49 2 #[] #[])
  fields := #[]
  methods := #[k11m0, k11m1]
  instanceTypes := #[]
  staticTypes := #[]
  resolved := Array.replicate 184 none
  statics := none }

def pool12 : Array CpInfo := pool [(1, .class_ 2), (0, u "java/lang/Math"), (1, .class_ 6), (1, u "java/lang/Object"), (0, u "<init>"), (0, u "()V"), (89, .class_ 100), (1, u "java/lang/Math$RandomNumberGeneratorHolder"), (20, u "(JJ)J"), (50, u "negativeZeroFloatBits"), (0, u "J"), (2, u "negativeZeroDoubleBits"), (21, u "max"), (46, u "$assertionsDisabled"), (0, u "Z"), (91, u "twoToTheDoubleScaleDown"), (0, u "D"), (4, u "twoToTheDoubleScaleUp"), (9, u "E"), (3, u "PI"), (2, u "TAU"), (2, u "DEGREES_TO_RADIANS"), (0, u "RADIANS_TO_DEGREES")] 94

def k12m0 : Method := { name := "<init>", desc := "()V", sig := { parameters := [], returnType := none }, accessFlags := 2, code := none }
def k12c1 : Code := { maxStack := 4, maxLocals := 4, code := jdk_29_method_66_code, exceptionTable := #[], attributes := #[] }
def k12m1 : Method := { name := "max", desc := "(JJ)J", sig := { parameters := [.long, .long], returnType := some .long }, accessFlags := 9, code := some k12c1 }
/-- java/lang/Math -/
def k12 : Class := { plain "java/lang/Math" (some 0) with
  accessFlags := 49
  interfaces := #[]
  cf := some (fileOf pool12 1 #[.nestMembers #[98]] #[{ accessFlags := 2, nameIndex := 7, descriptorIndex := 8, attributes := #[] }, { accessFlags := 9, nameIndex := 198, descriptorIndex := 121, attributes := #[] }] 49 4 #[] #[{ accessFlags := 25, nameIndex := 354, descriptorIndex := 339, attributes := #[] }, { accessFlags := 25, nameIndex := 358, descriptorIndex := 339, attributes := #[] }, { accessFlags := 25, nameIndex := 361, descriptorIndex := 339, attributes := #[] }, { accessFlags := 26, nameIndex := 364, descriptorIndex := 339, attributes := #[] }, { accessFlags := 26, nameIndex := 365, descriptorIndex := 339, attributes := #[] }, { accessFlags := 26, nameIndex := 172, descriptorIndex := 173, attributes := #[] }, { accessFlags := 26, nameIndex := 176, descriptorIndex := 173, attributes := #[] }, { accessFlags := 8, nameIndex := 344, descriptorIndex := 339, attributes := #[] }, { accessFlags := 8, nameIndex := 338, descriptorIndex := 339, attributes := #[] }, { accessFlags := 4120, nameIndex := 245, descriptorIndex := 246, attributes := #[] }])
  fields := #[{ name := "E", type := .double, accessFlags := 25, slot := 0, constantValue := 0 }, { name := "PI", type := .double, accessFlags := 25, slot := 1, constantValue := 0 }, { name := "TAU", type := .double, accessFlags := 25, slot := 2, constantValue := 0 }, { name := "DEGREES_TO_RADIANS", type := .double, accessFlags := 26, slot := 3, constantValue := 0 }, { name := "RADIANS_TO_DEGREES", type := .double, accessFlags := 26, slot := 4, constantValue := 0 }, { name := "negativeZeroFloatBits", type := .long, accessFlags := 26, slot := 5, constantValue := 0 }, { name := "negativeZeroDoubleBits", type := .long, accessFlags := 26, slot := 6, constantValue := 0 }, { name := "twoToTheDoubleScaleUp", type := .double, accessFlags := 8, slot := 7, constantValue := 0 }, { name := "twoToTheDoubleScaleDown", type := .double, accessFlags := 8, slot := 8, constantValue := 0 }, { name := "$assertionsDisabled", type := .boolean, accessFlags := 4120, slot := 9, constantValue := 0 }]
  methods := #[k12m0, k12m1]
  instanceTypes := #[]
  staticTypes := #[.double, .double, .double, .double, .double, .long, .long, .double, .double, .boolean]
  resolved := Array.replicate 460 none
  statics := none }

def pool13 : Array CpInfo := pool [(4, .class_ 6), (1, u "java/lang/Object"), (0, u "<init>"), (0, u "()V"), (5, .class_ 16), (1, u "java/lang/StringLatin1"), (104, u "$assertionsDisabled"), (0, u "Z"), (98, .class_ 223), (1, u "java/lang/StringLatin1$LinesSpliterator"), (166, .class_ 391), (0, u "java/lang/StringLatin1$CharsSpliterator")] 3

def k13m0 : Method := { name := "<init>", desc := "()V", sig := { parameters := [], returnType := none }, accessFlags := 0, code := none }
/-- java/lang/StringLatin1 -/
def k13 : Class := { plain "java/lang/StringLatin1" (some 0) with
  accessFlags := 48
  interfaces := #[]
  cf := some (fileOf pool13 14 #[.nestMembers #[390, 221]] #[{ accessFlags := 0, nameIndex := 7, descriptorIndex := 8, attributes := #[] }] 48 4 #[] #[{ accessFlags := 4120, nameIndex := 121, descriptorIndex := 122, attributes := #[] }])
  fields := #[{ name := "$assertionsDisabled", type := .boolean, accessFlags := 4120, slot := 0, constantValue := 0 }]
  methods := #[k13m0]
  instanceTypes := #[]
  staticTypes := #[.boolean]
  resolved := Array.replicate 395 none
  statics := none }

def pool14 : Array CpInfo := pool [(2, .class_ 4), (1, u "java/lang/Object"), (0, u "<init>"), (0, u "()V"), (17, .class_ 26), (1, u "jdk/internal/util/Preconditions"), (28, .class_ 56), (0, u "jdk/internal/util/Preconditions$4"), (57, .class_ 115), (0, u "jdk/internal/util/Preconditions$1"), (7, u "SIOOBE_FORMATTER"), (0, u "Ljava/util/function/BiFunction;"), (0, .class_ 126), (0, u "jdk/internal/util/Preconditions$2"), (3, u "AIOOBE_FORMATTER"), (0, .class_ 132), (0, u "jdk/internal/util/Preconditions$3"), (3, u "IOOBE_FORMATTER")] 57

def k14m0 : Method := { name := "<init>", desc := "()V", sig := { parameters := [], returnType := none }, accessFlags := 1, code := none }
/-- jdk/internal/util/Preconditions -/
def k14 : Class := { plain "jdk/internal/util/Preconditions" (some 0) with
  accessFlags := 33
  interfaces := #[]
  cf := some (fileOf pool14 24 #[.nestMembers #[55, 131, 125, 114]] #[{ accessFlags := 1, nameIndex := 5, descriptorIndex := 6, attributes := #[] }] 33 2 #[] #[{ accessFlags := 25, nameIndex := 123, descriptorIndex := 124, attributes := #[] }, { accessFlags := 25, nameIndex := 130, descriptorIndex := 124, attributes := #[] }, { accessFlags := 25, nameIndex := 136, descriptorIndex := 124, attributes := #[] }])
  fields := #[{ name := "SIOOBE_FORMATTER", type := (.object "java/util/function/BiFunction"), accessFlags := 25, slot := 0, constantValue := 0 }, { name := "AIOOBE_FORMATTER", type := (.object "java/util/function/BiFunction"), accessFlags := 25, slot := 1, constantValue := 0 }, { name := "IOOBE_FORMATTER", type := (.object "java/util/function/BiFunction"), accessFlags := 25, slot := 2, constantValue := 0 }]
  methods := #[k14m0]
  instanceTypes := #[]
  staticTypes := #[(.object "java/util/function/BiFunction"), (.object "java/util/function/BiFunction"), (.object "java/util/function/BiFunction")]
  resolved := Array.replicate 194 none
  statics := some 1 }

def pool15 : Array CpInfo := pool [(9, u "<init>"), (6, .class_ 18), (1, u "java/lang/Object"), (0, u "()V"), (1, .class_ 23), (1, u "jdk/internal/util/ArraysSupport"), (0, u "LOG2_ARRAY_LONG_INDEX_SCALE"), (0, u "I"), (2, u "U"), (0, u "Ljdk/internal/misc/Unsafe;"), (8, u "BIG_ENDIAN"), (0, u "Z"), (8, u "LOG2_BYTE_BIT_SIZE"), (4, u "LOG2_ARRAY_INT_INDEX_SCALE"), (54, u "JLA"), (0, u "Ljdk/internal/access/JavaLangAccess;"), (11, u "LOG2_ARRAY_BOOLEAN_INDEX_SCALE"), (9, u "LOG2_ARRAY_BYTE_INDEX_SCALE"), (5, u "LOG2_ARRAY_CHAR_INDEX_SCALE"), (5, u "LOG2_ARRAY_SHORT_INDEX_SCALE"), (18, u "LOG2_ARRAY_FLOAT_INDEX_SCALE"), (24, u "LOG2_ARRAY_DOUBLE_INDEX_SCALE"), (89, u "T_BOOLEAN"), (2, u "T_CHAR"), (1, u "T_FLOAT"), (1, u "T_DOUBLE"), (1, u "T_BYTE"), (1, u "T_SHORT"), (1, u "T_INT"), (1, u "T_LONG"), (1, u "SOFT_MAX_ARRAY_LENGTH")] 83

def k15m0 : Method := { name := "<init>", desc := "()V", sig := { parameters := [], returnType := none }, accessFlags := 2, code := none }
/-- jdk/internal/util/ArraysSupport -/
def k15 : Class := { plain "jdk/internal/util/ArraysSupport" (some 0) with
  accessFlags := 33
  interfaces := #[]
  cf := some (fileOf pool15 21 #[] #[{ accessFlags := 2, nameIndex := 9, descriptorIndex := 19, attributes := #[] }] 33 16 #[] #[{ accessFlags := 24, nameIndex := 28, descriptorIndex := 29, attributes := #[] }, { accessFlags := 26, nameIndex := 38, descriptorIndex := 39, attributes := #[] }, { accessFlags := 25, nameIndex := 121, descriptorIndex := 25, attributes := #[] }, { accessFlags := 25, nameIndex := 131, descriptorIndex := 25, attributes := #[] }, { accessFlags := 25, nameIndex := 137, descriptorIndex := 25, attributes := #[] }, { accessFlags := 25, nameIndex := 143, descriptorIndex := 25, attributes := #[] }, { accessFlags := 25, nameIndex := 53, descriptorIndex := 25, attributes := #[] }, { accessFlags := 25, nameIndex := 24, descriptorIndex := 25, attributes := #[] }, { accessFlags := 25, nameIndex := 162, descriptorIndex := 25, attributes := #[] }, { accessFlags := 25, nameIndex := 187, descriptorIndex := 25, attributes := #[] }, { accessFlags := 26, nameIndex := 48, descriptorIndex := 25, attributes := #[] }, { accessFlags := 25, nameIndex := 277, descriptorIndex := 25, attributes := #[] }, { accessFlags := 25, nameIndex := 280, descriptorIndex := 25, attributes := #[] }, { accessFlags := 25, nameIndex := 282, descriptorIndex := 25, attributes := #[] }, { accessFlags := 25, nameIndex := 284, descriptorIndex := 25, attributes := #[] }, { accessFlags := 25, nameIndex := 286, descriptorIndex := 25, attributes := #[] }, { accessFlags := 25, nameIndex := 288, descriptorIndex := 25, attributes := #[] }, { accessFlags := 25, nameIndex := 290, descriptorIndex := 25, attributes := #[] }, { accessFlags := 25, nameIndex := 292, descriptorIndex := 25, attributes := #[] }, { accessFlags := 26, nameIndex := 108, descriptorIndex := 109, attributes := #[] }, { accessFlags := 25, nameIndex := 294, descriptorIndex := 25, attributes := #[] }])
  fields := #[{ name := "U", type := (.object "jdk/internal/misc/Unsafe"), accessFlags := 24, slot := 0, constantValue := 0 }, { name := "BIG_ENDIAN", type := .boolean, accessFlags := 26, slot := 1, constantValue := 0 }, { name := "LOG2_ARRAY_BOOLEAN_INDEX_SCALE", type := .int, accessFlags := 25, slot := 2, constantValue := 0 }, { name := "LOG2_ARRAY_BYTE_INDEX_SCALE", type := .int, accessFlags := 25, slot := 3, constantValue := 0 }, { name := "LOG2_ARRAY_CHAR_INDEX_SCALE", type := .int, accessFlags := 25, slot := 4, constantValue := 0 }, { name := "LOG2_ARRAY_SHORT_INDEX_SCALE", type := .int, accessFlags := 25, slot := 5, constantValue := 0 }, { name := "LOG2_ARRAY_INT_INDEX_SCALE", type := .int, accessFlags := 25, slot := 6, constantValue := 0 }, { name := "LOG2_ARRAY_LONG_INDEX_SCALE", type := .int, accessFlags := 25, slot := 7, constantValue := 0 }, { name := "LOG2_ARRAY_FLOAT_INDEX_SCALE", type := .int, accessFlags := 25, slot := 8, constantValue := 0 }, { name := "LOG2_ARRAY_DOUBLE_INDEX_SCALE", type := .int, accessFlags := 25, slot := 9, constantValue := 0 }, { name := "LOG2_BYTE_BIT_SIZE", type := .int, accessFlags := 26, slot := 10, constantValue := 0 }, { name := "T_BOOLEAN", type := .int, accessFlags := 25, slot := 11, constantValue := 0 }, { name := "T_CHAR", type := .int, accessFlags := 25, slot := 12, constantValue := 0 }, { name := "T_FLOAT", type := .int, accessFlags := 25, slot := 13, constantValue := 0 }, { name := "T_DOUBLE", type := .int, accessFlags := 25, slot := 14, constantValue := 0 }, { name := "T_BYTE", type := .int, accessFlags := 25, slot := 15, constantValue := 0 }, { name := "T_SHORT", type := .int, accessFlags := 25, slot := 16, constantValue := 0 }, { name := "T_INT", type := .int, accessFlags := 25, slot := 17, constantValue := 0 }, { name := "T_LONG", type := .int, accessFlags := 25, slot := 18, constantValue := 0 }, { name := "JLA", type := (.object "jdk/internal/access/JavaLangAccess"), accessFlags := 26, slot := 19, constantValue := 0 }, { name := "SOFT_MAX_ARRAY_LENGTH", type := .int, accessFlags := 25, slot := 20, constantValue := 0 }]
  methods := #[k15m0]
  instanceTypes := #[]
  staticTypes := #[(.object "jdk/internal/misc/Unsafe"), .boolean, .int, .int, .int, .int, .int, .int, .int, .int, .int, .int, .int, .int, .int, .int, .int, .int, .int, (.object "jdk/internal/access/JavaLangAccess"), .int]
  resolved := Array.replicate 378 none
  statics := none }

def pool16 : Array CpInfo := pool [(1, u "java/lang/Cloneable"), (0, .class_ 1), (0, u "java/lang/Object"), (0, .class_ 3)] 3

/-- java/lang/Cloneable -/
def k16 : Class := { plain "java/lang/Cloneable" (some 0) with
  accessFlags := 1537
  interfaces := #[]
  cf := some (fileOf pool16 2 #[] #[] 1537 4 #[] #[])
  fields := #[]
  methods := #[]
  instanceTypes := #[]
  staticTypes := #[]
  resolved := Array.replicate 8 none
  statics := none }

/-- the primitive byte -/
def k17 : Class := { plain "byte" none with kind := .primitive 'B', accessFlags := 0x411 }
/-- [B -/
def k18 : Class := { plain "[B" (some 0) with kind := .array 17 .byte, interfaces := #[16, 4], accessFlags := 1041 }

/-- the primitive char -/
def k19 : Class := { plain "char" none with kind := .primitive 'C', accessFlags := 0x411 }
/-- [C -/
def k20 : Class := { plain "[C" (some 0) with kind := .array 19 .char, interfaces := #[16, 4], accessFlags := 1041 }

/-- the primitive int -/
def k21 : Class := { plain "int" none with kind := .primitive 'I', accessFlags := 0x411 }
/-- [I -/
def k22 : Class := { plain "[I" (some 0) with kind := .array 21 .int, interfaces := #[16, 4], accessFlags := 1041 }

def heap : Heap := #[{ cls := 9, slots := #[.long 0, .int 1, .null, .int 0, .null, .int 0, .int 0], vm := .statics 9 },
  { cls := 14, slots := #[.null, .null, .null], vm := .statics 14 }]
def classes : Array Class := #[k0, k1, k2, k3, k4, k5, k6, k7, k8, k9, k10, k11, k12, k13, k14, k15, k16, k17, k18, k19, k20, k21, k22]
def interned : List (Array UInt16 × Addr) := []
def slotsUsed : Nat := 10
def theMethod : MethodId := ⟨1, 1⟩
def args0 : Array Value := #[.int 5, .int 7, .long 3, .long 1]
def aboutOver (below : List Frame) : State where
  vm := { classes := classes, interned := interned.toArray }
  heap := heap
  slotsUsed := slotsUsed
  threads := #[{ frames := .invoking theMethod args0 :: below }]
def below0 : List Frame := [.native { method := ⟨0, 0⟩, args := #[] }]
def about1 : State := aboutOver below0
def p0 : Program := .bare "" "" ""
def e0 : Env := launch0.env 0 0 0
theorem w_frames : about1.frames = Frame.invoking theMethod args0 :: below0 := rfl
set_option maxRecDepth 65536 in
theorem w_args : argsFit about1.vm theMethod args0 = true := by decide +kernel
set_option maxRecDepth 65536 in
theorem w_heap : heapFits about1 = true := by decide +kernel
set_option maxRecDepth 65536 in
theorem w_runnable : about1.curStatus? = some .runnable := by decide +kernel
set_option maxRecDepth 65536 in
theorem w_alone : about1.alone = true := by decide +kernel
set_option maxRecDepth 65536 in
theorem w_named : about1.methodNamed? x = some theMethod := by decide +kernel
set_option maxRecDepth 65536 in
theorem w_hears : about1.hears theMethod below0 = true := by decide +kernel
set_option maxRecDepth 65536 in
theorem w_ripe : about1.ripe theMethod args0 below0 = true := by decide +kernel
theorem w_running : about1.status = .running := rfl
set_option maxRecDepth 65536 in
theorem w_room : about1.hasRoom e0.platform room_1 = true :=
  launch0.hasRoom_least _ room_1 (by decide +kernel) (by decide +kernel) (by decide +kernel) (by decide +kernel) (by decide +kernel) (by decide +kernel)
theorem allAtoms_all (ts : List Jvm.Cond) (a : Array Jvm.Value) (st : Jvm.State) : (allAtoms ts).before a st = ts.all (fun c => c.before a st) := by
  induction ts with
  | nil => rfl
  | cons c t ih =>
    show (Jvm.Cond.and c (allAtoms t)).before a st = _
    rw [Jvm.Cond.before_and, ih, List.all_cons]
def words1 : List Jvm.Cond := Jvm.Cond.code x code maxLocals ret :: tables_1
/-- a 'code' word, met by the world's own term for the bytes: nothing is compared byte by byte -/
theorem code_word {y : MethodName} {bytes : ByteArray} {mx : Nat} {rt : Option FieldType} {a : Array Value} {s : State} {m : MethodId} {meth : Method} {c : Code} (h1 : s.methodNamed? y = some m) (h2 : s.vm.method? m = some meth) (h3 : meth.code = some c) (h4 : c.code = bytes)
    (h5 : (c.maxLocals == mx && c.exceptionTable.isEmpty && decide (c.maxStack ≤ mostOperands) && decide (meth.sig.returnType = rt) && !meth.locks && decide (parseMethodDescriptor y.desc = some meth.sig)) = true) : (Jvm.Cond.code y bytes mx rt).before a s = true := by
  simp only [Bool.and_eq_true, beq_iff_eq, Bool.not_eq_true', decide_eq_true_eq] at h5
  obtain ⟨⟨⟨⟨⟨g1, g2⟩, g3⟩, g4⟩, g5⟩, g6⟩ := h5
  simp [Cond.before, Cond.holds, Cond.value, h1, h2, h3, h4, g1, g2, g3, g4, g5, g6]
def isCode : Jvm.Cond → Bool
  | .code _ _ _ _ => true
  | _ => false
theorem all_split {L : List Jvm.Cond} {P : Jvm.Cond → Bool} (h1 : L.all (fun c => isCode c || P c) = true) (h2 : ∀ c ∈ L.filter isCode, P c = true) : L.all P = true := by
  refine List.all_eq_true.mpr fun c hc => ?_
  have h := List.all_eq_true.mp h1 c hc
  rcases Bool.eq_false_or_eq_true (isCode c) with hi | hi
  · exact h2 c (List.mem_filter.mpr ⟨hc, hi⟩)
  · simpa [hi] using h
set_option maxRecDepth 65536 in
theorem w_c0 : (Jvm.Cond.code x code maxLocals ret).before args0 about1 = true := code_word (m := ⟨1, 1⟩) (meth := k1m1) (c := k1c1) (by decide +kernel) rfl rfl rfl (by decide +kernel)
set_option maxRecDepth 65536 in
theorem w_c1 : (Jvm.Cond.code ({ cls := "java/lang/String", name := "<init>", desc := "([C)V" } : Jvm.MethodName) jdk_42_method_3_code (2 : Nat) (Option.none : Option Jvm.ClassFile.FieldType)).before args0 about1 = true := code_word (m := ⟨9, 1⟩) (meth := k9m1) (c := k9c1) (by decide +kernel) rfl rfl rfl (by decide +kernel)
set_option maxRecDepth 65536 in
theorem w_c2 : (Jvm.Cond.code ({ cls := "java/lang/String", name := "<init>", desc := "([CIILjava/lang/Void;)V" } : Jvm.MethodName) jdk_42_method_149_code (6 : Nat) (Option.none : Option Jvm.ClassFile.FieldType)).before args0 about1 = true := code_word (m := ⟨9, 2⟩) (meth := k9m2) (c := k9c2) (by decide +kernel) rfl rfl rfl (by decide +kernel)
set_option maxRecDepth 65536 in
theorem w_c3 : (Jvm.Cond.code ({ cls := "java/lang/Object", name := "<init>", desc := "()V" } : Jvm.MethodName) object_method_1_code (1 : Nat) (Option.none : Option Jvm.ClassFile.FieldType)).before args0 about1 = true := code_word (m := ⟨0, 0⟩) (meth := k0m0) (c := k0c0) (by decide +kernel) rfl rfl rfl (by decide +kernel)
set_option maxRecDepth 65536 in
theorem w_c4 : (Jvm.Cond.code ({ cls := "java/lang/StringUTF16", name := "compress", desc := "([CII)[B" } : Jvm.MethodName) jdk_52_method_16_code (6 : Nat) (Option.some (Jvm.ClassFile.FieldType.array Jvm.ClassFile.FieldType.byte))).before args0 about1 = true := code_word (m := ⟨10, 2⟩) (meth := k10m2) (c := k10c2) (by decide +kernel) rfl rfl rfl (by decide +kernel)
set_option maxRecDepth 65536 in
theorem w_c5 : (Jvm.Cond.code ({ cls := "java/lang/StringUTF16", name := "compress", desc := "([CI[BII)I" } : Jvm.MethodName) jdk_52_method_21_code (7 : Nat) (Option.some Jvm.ClassFile.FieldType.int)).before args0 about1 = true := code_word (m := ⟨10, 3⟩) (meth := k10m3) (c := k10c3) (by decide +kernel) rfl rfl rfl (by decide +kernel)
set_option maxRecDepth 65536 in
theorem w_c6 : (Jvm.Cond.code ({ cls := "java/lang/StringUTF16", name := "coderFromArrayLen", desc := "([BI)B" } : Jvm.MethodName) jdk_52_method_15_code (2 : Nat) (Option.some Jvm.ClassFile.FieldType.byte)).before args0 about1 = true := code_word (m := ⟨10, 1⟩) (meth := k10m1) (c := k10c1) (by decide +kernel) rfl rfl rfl (by decide +kernel)
set_option maxRecDepth 65536 in
theorem w_c7 : (Jvm.Cond.code ({ cls := "com/example/glasshouse/glasshouse/model/CoverageRun$Branch", name := "<init>", desc := "(Ljava/lang/String;IJJ)V" } : Jvm.MethodName) prog_142_method_1_code (7 : Nat) (Option.none : Option Jvm.ClassFile.FieldType)).before args0 about1 = true := code_word (m := ⟨3, 0⟩) (meth := k3m0) (c := k3c0) (by decide +kernel) rfl rfl rfl (by decide +kernel)
set_option maxRecDepth 65536 in
theorem w_c8 : (Jvm.Cond.code ({ cls := "java/lang/Record", name := "<init>", desc := "()V" } : Jvm.MethodName) jdk_30_method_1_code (1 : Nat) (Option.none : Option Jvm.ClassFile.FieldType)).before args0 about1 = true := code_word (m := ⟨2, 0⟩) (meth := k2m0) (c := k2c0) (by decide +kernel) rfl rfl rfl (by decide +kernel)
set_option maxRecDepth 65536 in
theorem w_c9 : (Jvm.Cond.code ({ cls := "java/util/Objects", name := "requireNonNull", desc := "(Ljava/lang/Object;Ljava/lang/String;)Ljava/lang/Object;" } : Jvm.MethodName) jdk_31_method_11_code (2 : Nat) (Option.some (Jvm.ClassFile.FieldType.object "java/lang/Object"))).before args0 about1 = true := code_word (m := ⟨11, 1⟩) (meth := k11m1) (c := k11c1) (by decide +kernel) rfl rfl rfl (by decide +kernel)
set_option maxRecDepth 65536 in
theorem w_c10 : (Jvm.Cond.code ({ cls := "java/lang/Math", name := "max", desc := "(JJ)J" } : Jvm.MethodName) jdk_29_method_66_code (4 : Nat) (Option.some Jvm.ClassFile.FieldType.long)).before args0 about1 = true := code_word (m := ⟨12, 1⟩) (meth := k12m1) (c := k12c1) (by decide +kernel) rfl rfl rfl (by decide +kernel)
set_option maxRecDepth 65536 in
theorem w_c11 : (Jvm.Cond.code ({ cls := "com/example/glasshouse/glasshouse/model/CoverageRun$Branch", name := "tested", desc := "()Z" } : Jvm.MethodName) prog_142_method_2_code (1 : Nat) (Option.some Jvm.ClassFile.FieldType.boolean)).before args0 about1 = true := code_word (m := ⟨3, 1⟩) (meth := k3m1) (c := k3c1) (by decide +kernel) rfl rfl rfl (by decide +kernel)
def codes1 : List Jvm.Cond := [Jvm.Cond.code x code maxLocals ret, Jvm.Cond.code ({ cls := "java/lang/String", name := "<init>", desc := "([C)V" } : Jvm.MethodName) jdk_42_method_3_code (2 : Nat) (Option.none : Option Jvm.ClassFile.FieldType), Jvm.Cond.code ({ cls := "java/lang/String", name := "<init>", desc := "([CIILjava/lang/Void;)V" } : Jvm.MethodName) jdk_42_method_149_code (6 : Nat) (Option.none : Option Jvm.ClassFile.FieldType), Jvm.Cond.code ({ cls := "java/lang/Object", name := "<init>", desc := "()V" } : Jvm.MethodName) object_method_1_code (1 : Nat) (Option.none : Option Jvm.ClassFile.FieldType), Jvm.Cond.code ({ cls := "java/lang/StringUTF16", name := "compress", desc := "([CII)[B" } : Jvm.MethodName) jdk_52_method_16_code (6 : Nat) (Option.some (Jvm.ClassFile.FieldType.array Jvm.ClassFile.FieldType.byte)), Jvm.Cond.code ({ cls := "java/lang/StringUTF16", name := "compress", desc := "([CI[BII)I" } : Jvm.MethodName) jdk_52_method_21_code (7 : Nat) (Option.some Jvm.ClassFile.FieldType.int), Jvm.Cond.code ({ cls := "java/lang/StringUTF16", name := "coderFromArrayLen", desc := "([BI)B" } : Jvm.MethodName) jdk_52_method_15_code (2 : Nat) (Option.some Jvm.ClassFile.FieldType.byte), Jvm.Cond.code ({ cls := "com/example/glasshouse/glasshouse/model/CoverageRun$Branch", name := "<init>", desc := "(Ljava/lang/String;IJJ)V" } : Jvm.MethodName) prog_142_method_1_code (7 : Nat) (Option.none : Option Jvm.ClassFile.FieldType), Jvm.Cond.code ({ cls := "java/lang/Record", name := "<init>", desc := "()V" } : Jvm.MethodName) jdk_30_method_1_code (1 : Nat) (Option.none : Option Jvm.ClassFile.FieldType), Jvm.Cond.code ({ cls := "java/util/Objects", name := "requireNonNull", desc := "(Ljava/lang/Object;Ljava/lang/String;)Ljava/lang/Object;" } : Jvm.MethodName) jdk_31_method_11_code (2 : Nat) (Option.some (Jvm.ClassFile.FieldType.object "java/lang/Object")), Jvm.Cond.code ({ cls := "java/lang/Math", name := "max", desc := "(JJ)J" } : Jvm.MethodName) jdk_29_method_66_code (4 : Nat) (Option.some Jvm.ClassFile.FieldType.long), Jvm.Cond.code ({ cls := "com/example/glasshouse/glasshouse/model/CoverageRun$Branch", name := "tested", desc := "()Z" } : Jvm.MethodName) prog_142_method_2_code (1 : Nat) (Option.some Jvm.ClassFile.FieldType.boolean)]
set_option maxRecDepth 65536 in
theorem codes_eq : words1.filter isCode = codes1 := rfl
theorem w_codes : ∀ c ∈ words1.filter isCode, c.before args0 about1 = true := by
  rw [codes_eq]
  intro c hc
  simp only [codes1, List.mem_cons, List.not_mem_nil, or_false] at hc
  rcases hc with rfl | rfl | rfl | rfl | rfl | rfl | rfl | rfl | rfl | rfl | rfl | rfl
  · exact w_c0
  · exact w_c1
  · exact w_c2
  · exact w_c3
  · exact w_c4
  · exact w_c5
  · exact w_c6
  · exact w_c7
  · exact w_c8
  · exact w_c9
  · exact w_c10
  · exact w_c11
set_option maxRecDepth 65536 in
theorem w_t1 : (words1.take 24).all (fun c => isCode c || c.before args0 about1) = true := by decide +kernel
set_option maxRecDepth 65536 in
theorem w_t2 : ((words1.drop 24).take 24).all (fun c => isCode c || c.before args0 about1) = true := by decide +kernel
set_option maxRecDepth 65536 in
theorem w_t3 : ((words1.drop 24).drop 24).all (fun c => isCode c || c.before args0 about1) = true := by decide +kernel
theorem w_tables : (allAtoms (Jvm.Cond.code x code maxLocals ret :: tables_1)).before args0 about1 = true := by
  rw [allAtoms_all]
  show words1.all (fun c => c.before args0 about1) = true
  refine all_split ?_ w_codes
  rw [← List.take_append_drop 24 words1, List.all_append, w_t1, ← List.take_append_drop 24 (words1.drop 24), List.all_append, w_t2, w_t3]
  rfl
set_option maxRecDepth 65536 in
theorem w_rest : rest_1_c.before args0 about1 = true := by decide +kernel
set_option maxRecDepth 65536 in
theorem w_case : (Jvm.Cond.and given_1 narrow_1).before args0 about1 = true := by decide +kernel
theorem w_applies : (headSpec (Jvm.Cond.code x code maxLocals ret :: tables_1) room_1).applies x e0.platform about1 = true :=
  (Spec.applies_iff w_frames).mpr ⟨w_running, w_runnable, w_alone, w_named, w_hears, w_ripe, w_room, w_tables⟩
theorem atStart : AtStart classFile x code maxLocals ret World_1 tables_1 room_1 Calls_1 rest_1 Pre_1 launch0 p0 e0 about1 theMethod args0 below0 :=
  ⟨lists_1, trivial, launch0.admits_env _ _ _, launch0.least_env, fairChoices_fair.cas, fairChoices_fair.clock, w_frames, w_args, w_heap, w_applies, trivial, w_rest, w_case⟩
end start1
theorem witness_1 : WitnessClaimed_1 := ⟨start1.p0, start1.e0, start1.about1, start1.theMethod, start1.args0, start1.below0, start1.atStart⟩
end Jvm.Pilot.@@N@@
