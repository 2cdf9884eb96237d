import JvmDerived
import JvmDerived.Pilot.@@N@@Statement
import JvmDerived.Pilot.@@N@@Code
set_option linter.unusedVariables false
set_option linter.unusedSimpArgs false
namespace Jvm.Pilot.@@N@@
open Jvm Jvm.ClassFile Sem Op Lib Jvm.Free Jvm.Stand Jvm.LawKit Jvm.RoadKit Bundle Jvm.Pilot.@@N@@.Jvm.D
section Own
variable {p : Program} {l : Launch} {e : Env} {R : Room} {s : State} {m : MethodId} {args : Array Value} {below : List Frame} {meth : Method} {c : Code} {T : State} {cells slots : Nat} {Z : State} {a0 : Array Value} {h h' h0 : Heap} {ws ws' : List Addr}
  {own nm : String} {bytes : ByteArray} {maxL : Nat} {rt : Option FieldType} {W : State → Outcome → Prop} {pc : Nat} {Ls : Array Slot} {rest : List Value}
/-- the run from A ends as W says -/
def OwnDone (p : Program) (e : Env) (below : List Frame) (W : State → Outcome → Prop) (A : State) : Prop :=
  ∃ s₂ o, Steps p.tables e below A s₂ ∧ s₂.status = .running ∧ Ended s₂ below o ∧ W s₂ o
theorem OwnDone.go {A B : State} (h : ∀ t, Steps p.tables e below A t → Steps p.tables e below B t) (k : OwnDone p e below W A) : OwnDone p e below W B := by
  obtain ⟨s₂, o, h1, h2⟩ := k
  exact ⟨s₂, o, h _ h1, h2⟩
/-- how a body ends: what it returns and leaves (Q), and that it wrote nothing older than its start but the objects ws -/
def OwnEnds (s Z : State) (ws : List Addr) (h0 : Heap) (Q : Option Value → Heap → Prop) (k n : Nat) (s₂ : State) (o : Outcome) : Prop :=
  ∃ v L, o = .returned v ∧ (Q v s₂.heap ∧ Keep h0 s₂.heap ws ∧ ∀ y ∈ L, y.base ∈ ws ∨ h0.size ≤ y.base) ∧ FrameEnd s o s₂ L k n
/-- the surroundings of a walk -/
def OwnCx (p : Program) (Z s : State) (m : MethodId) (meth : Method) (c : Code) (own nm : String) (bytes : ByteArray) (maxL : Nat) (rt : Option FieldType) : Prop :=
  p.tables.exec = Jvm.exec ∧ Z.Warmed39 s.vm ∧ s.vm.findClass own = some m.cls ∧ meth.name = nm ∧ c.code = bytes ∧ c.maxLocals = maxL ∧ meth.sig.returnType = rt ∧ meth.locks = false
/-- where the walk stands -/
def OwnPos (p : Program) (l : Launch) (e : Env) (R : Room) (s : State) (m : MethodId) (args : Array Value) (below : List Frame) (meth : Method) (c : Code) (Z : State) (ws : List Addr) (h0 : Heap) (T : State) (h : Heap) (cells slots : Nat) : Prop :=
  ∃ locs, Stand p l e R s m args below meth c T locs cells slots ∧ T.heap = h ∧ s.heap = h0 ∧ (∀ y ∈ locs, y.base ∈ ws ∨ h0.size ≤ y.base) ∧ Ext Z.heap h0 ∧ ∀ a ∈ ws, Z.heap.size ≤ a
theorem OwnPos.here (P : OwnPos p l e R s m args below meth c Z ws h0 T h cells slots) : At T m c below := by
  obtain ⟨_, X, _⟩ := P; exact X.here
theorem OwnPos.keep (P : OwnPos p l e R s m args below meth c Z ws h0 T h cells slots) : Keep h0 h ws := by
  obtain ⟨locs, X, rfl, rfl, N, -, -⟩ := P
  have hs := X.same
  have far : ∀ (x : Addr) (c : Cell), s.heap[x]? = some c → x ∉ ws → ∀ i, (⟨x, i⟩ : Loc) ∉ locs := fun x c hx hn i hi => by
    rcases N _ hi with q | q
    · exact hn q
    · exact absurd (Array.getElem?_eq_some_iff.mp hx).1 (Nat.not_lt.mpr q)
  refine ⟨hs.2.1, fun x c hx hn => ?_, fun x c hx => ?_⟩
  · obtain ⟨c', h1, h2, h3, h4⟩ := hs.2.2.2.2.2 x c hx
    have e1 : c'.slots = c.slots := by
      apply Array.ext_getElem?
      intro i
      exact h4 i (far x c hx hn i)
    have e2 : c' = c := by rw [h2, e1]
    exact e2 ▸ h1
  · obtain ⟨c', h1, h2, h3, h4⟩ := hs.2.2.2.2.2 x c hx
    exact ⟨c', h1, by rw [h2], by rw [h2], h3⟩
theorem OwnPos.old (P : OwnPos p l e R s m args below meth c Z ws h0 T h cells slots) : Ext Z.heap h := by
  have K := P.keep
  obtain ⟨locs, X, eT, e0, N, E0, G0⟩ := P
  refine ⟨Nat.le_trans E0.1 K.1, fun a c ha => K.2.1 a c (E0.2 a c ha) fun q => ?_⟩
  exact absurd (Array.getElem?_eq_some_iff.mp ha).1 (Nat.not_lt.mpr (G0 a q))
theorem OwnPos.ge (P : OwnPos p l e R s m args below meth c Z ws h0 T h cells slots) : Z.heap.size ≤ h.size := P.old.1
/-- a method's contract -/
def OwnMeets (l : Launch) (y : MethodName) (bytes : ByteArray) (maxL : Nat) (rt : Option FieldType) (rm : Room) (Z : State) (ws : List Addr) (as : Array Value) (h0 : Heap) (Q : Option Value → Heap → Prop) : Prop :=
  ∀ wz, MetFree l y (head1 (Cond.code y bytes maxL rt :: wz) rm) (fun a U => a = as ∧ Z.Warmed39 U.vm ∧ U.heap = h0) (fun _ _ _ _ _ => True) (fun _ U o U' => ∃ v L, o = .returned v ∧ (Q v U'.heap ∧ Keep h0 U'.heap ws ∧ ∀ y ∈ L, y.base ∈ ws ∨ h0.size ≤ y.base) ∧ FrameEnd U o U' L rm.cells rm.slots)
theorem OwnMeets.of {y : MethodName} {rm : Room} {as : Array Value} {Q : Option Value → Heap → Prop} (hp : plainFor y = true) (hE : Ext Z.heap h0) (hG : ∀ a ∈ ws, Z.heap.size ≤ a)
    (body : ∀ p e s m below meth c T, OwnCx p Z s m meth c y.cls y.name bytes maxL rt → OwnPos p l e rm s m as below meth c Z ws h0 T h0 0 0 → OwnDone p e below (OwnEnds s Z ws h0 Q rm.cells rm.slots) (T.setTop (entryFrame m as maxL))) :
    OwnMeets l y bytes maxL rt rm Z ws as h0 Q := by
  intro wz
  refine MetFree.of_bodySF hp hisR ?_
  intro p e s m args below meth c s₁ Bd hml hP hK
  obtain ⟨rfl, hZ, hh⟩ := hP
  exact body p e s m below meth c s₁ ⟨Bd.exec, hZ, findClass_of_methodNamed Bd.named, (name_of_methodNamed Bd.named Bd.method).1, Bd.bytes, hml, Bd.returns, Bd.notSynchronized⟩ ⟨_, Stand.of_body Bd, by rw [← hh, Bd.state]; rfl, hh, fun _ q => (nomatch q), hE, hG⟩

/-! the returns -/
theorem own_retN {Q : Option Value → Heap → Prop} {k n : Nat} {t : FieldType} {z z' : Int32} (C : OwnCx p Z s m meth c own nm bytes maxL (some t)) (P : OwnPos p l e R s m args below meth c Z ws h0 T h cells slots)
    (ht : t = .boolean ∨ t = .byte ∨ t = .char ∨ t = .short) (hz : nar t z = z') (hd : decode bytes pc = .ok (.ireturn, 1)) (hk : cells ≤ k) (hn : slots ≤ n) (hQ : Q (some (.int z')) h) :
    OwnDone p e below (OwnEnds s Z ws h0 Q k n) (T.setTop (mkF m pc Ls (.int z :: rest))) := by
  have kp := P.keep
  obtain ⟨hx, hZ, hown, hnm, hby, hml, hret, hlk⟩ := C
  obtain ⟨locs, X, eT, e0, N, E0, G0⟩ := P
  subst eT
  subst hz
  obtain ⟨fs, hr, hrun, hended, hW, hsame⟩ := X.leave (v := some (.int (nar t z))) (fun h => by rw [hret] at h; cases h) hlk
  exact ⟨_, _, Jvm.RoadKit.retN X hx hret ht (hb hby hd) hr, hrun, hended, _, _, rfl, ⟨hQ, kp, N⟩, ⟨_, rfl⟩, hW, hsame.mono hk hn⟩

theorem own_retI {Q : Option Value → Heap → Prop} {k n : Nat} {z : Int32} (C : OwnCx p Z s m meth c own nm bytes maxL (some .int)) (P : OwnPos p l e R s m args below meth c Z ws h0 T h cells slots)
    (hd : decode bytes pc = .ok (.ireturn, 1)) (hk : cells ≤ k) (hn : slots ≤ n) (hQ : Q (some (.int z)) h) :
    OwnDone p e below (OwnEnds s Z ws h0 Q k n) (T.setTop (mkF m pc Ls (.int z :: rest))) := by
  have kp := P.keep
  obtain ⟨hx, hZ, hown, hnm, hby, hml, hret, hlk⟩ := C
  obtain ⟨locs, X, eT, e0, N, E0, G0⟩ := P
  subst eT
  obtain ⟨fs, hr, hrun, hended, hW, hsame⟩ := X.leave (v := some (.int z)) (fun h => by rw [hret] at h; cases h) hlk
  exact ⟨_, _, retOut X hx hret rfl (Or.inl ⟨rfl, Or.inl rfl, z, rfl⟩) (hb hby hd) hr, hrun, hended, _, _, rfl, ⟨hQ, kp, N⟩, ⟨_, rfl⟩, hW, hsame.mono hk hn⟩

theorem own_retJ {Q : Option Value → Heap → Prop} {k n : Nat} {z : Int64} (C : OwnCx p Z s m meth c own nm bytes maxL (some .long)) (P : OwnPos p l e R s m args below meth c Z ws h0 T h cells slots)
    (hd : decode bytes pc = .ok (.lreturn, 1)) (hk : cells ≤ k) (hn : slots ≤ n) (hQ : Q (some (.long z)) h) :
    OwnDone p e below (OwnEnds s Z ws h0 Q k n) (T.setTop (mkF m pc Ls (.long z :: rest))) := by
  have kp := P.keep
  obtain ⟨hx, hZ, hown, hnm, hby, hml, hret, hlk⟩ := C
  obtain ⟨locs, X, eT, e0, N, E0, G0⟩ := P
  subst eT
  obtain ⟨fs, hr, hrun, hended, hW, hsame⟩ := X.leave (v := some (.long z)) (fun h => by rw [hret] at h; cases h) hlk
  exact ⟨_, _, retOut X hx hret rfl (Or.inr (Or.inl ⟨rfl, rfl, z, rfl⟩)) (hb hby hd) hr, hrun, hended, _, _, rfl, ⟨hQ, kp, N⟩, ⟨_, rfl⟩, hW, hsame.mono hk hn⟩

theorem own_retA {Q : Option Value → Heap → Prop} {k n : Nat} {w : Value} {t : FieldType} (C : OwnCx p Z s m meth c own nm bytes maxL (some t)) (P : OwnPos p l e R s m args below meth c Z ws h0 T h cells slots)
    (ht : t.isReference = true) (hw : w.isRef = true) (hd : decode bytes pc = .ok (.areturn, 1)) (hk : cells ≤ k) (hn : slots ≤ n) (hQ : Q (some w) h) :
    OwnDone p e below (OwnEnds s Z ws h0 Q k n) (T.setTop (mkF m pc Ls (w :: rest))) := by
  have kp := P.keep
  obtain ⟨hx, hZ, hown, hnm, hby, hml, hret, hlk⟩ := C
  obtain ⟨locs, X, eT, e0, N, E0, G0⟩ := P
  subst eT
  obtain ⟨fs, hr, hrun, hended, hW, hsame⟩ := X.leave (v := some w) (fun h => by rw [hret] at h; cases h) hlk
  have hnr : narrow t w = w := by cases t <;> first | (cases ht; done) | rfl
  exact ⟨_, _, retOut X hx hret hnr (Or.inr (Or.inr (Or.inr (Or.inr ⟨rfl, ht, hw⟩)))) (hb hby hd) hr, hrun, hended, _, _, rfl, ⟨hQ, kp, N⟩, ⟨_, rfl⟩, hW, hsame.mono hk hn⟩

theorem own_retV {Q : Option Value → Heap → Prop} {k n : Nat}  (C : OwnCx p Z s m meth c own nm bytes maxL none) (P : OwnPos p l e R s m args below meth c Z ws h0 T h cells slots)
    (hd : decode bytes pc = .ok (.return_, 1)) (hk : cells ≤ k) (hn : slots ≤ n) (hQ : Q (none) h) :
    OwnDone p e below (OwnEnds s Z ws h0 Q k n) (T.setTop (mkF m pc Ls [])) := by
  have kp := P.keep
  obtain ⟨hx, hZ, hown, hnm, hby, hml, hret, hlk⟩ := C
  obtain ⟨locs, X, eT, e0, N, E0, G0⟩ := P
  subst eT
  obtain ⟨fs, hr, hrun, hended, hW, hsame⟩ := X.leave (v := none) (fun _ => rfl) hlk
  exact ⟨_, _, X.returnOut hx hret (hb hby hd) hr, hrun, hended, _, _, rfl, ⟨hQ, kp, N⟩, ⟨_, rfl⟩, hW, hsame.mono hk hn⟩

/-! single steps that ask the tables or the heap -/
theorem own_ldc {target : State} {index : Nat} {v : Int32} (C : OwnCx p Z s m meth c own nm bytes maxL rt) (P : OwnPos p l e R s m args below meth c Z ws h0 T h cells slots)
    (w : (Cond.constant own index v).before a0 Z = true) (hd : decode bytes pc = .ok (.ldc index, 2))
    (k : Steps p.tables e below (T.setTop (mkF m (pc + 2) Ls (.int v :: rest))) target) : Steps p.tables e below (T.setTop (mkF m pc Ls rest)) target := by
  obtain ⟨hx, hZ, hown, hnm, hby, hml, hret, hlk⟩ := C
  obtain ⟨locs, X, eT, e0, N, E0, G0⟩ := P
  exact X.ldcInt hx hown (mvT hZ w) (g := mkF m pc Ls rest) rfl (hb hby hd) target k
theorem own_irem {target : State} {x y : Int32} (C : OwnCx p Z s m meth c own nm bytes maxL rt) (P : OwnPos p l e R s m args below meth c Z ws h0 T h cells slots)
    (hy : y ≠ 0) (hd : decode bytes pc = .ok (.irem, 1))
    (k : Steps p.tables e below (T.setTop (mkF m (pc + 1) Ls (.int (x % y) :: rest))) target) : Steps p.tables e below (T.setTop (mkF m pc Ls (.int y :: .int x :: rest))) target := by
  obtain ⟨hx, hZ, hown, hnm, hby, hml, hret, hlk⟩ := C
  obtain ⟨locs, X, eT, e0, N, E0, G0⟩ := P
  exact iremM X hx (g := mkF m pc Ls (.int y :: .int x :: rest)) rfl (hb hby hd) rfl hy k
theorem own_getF {R0 O n d host : String} {index : Nat} {a : Addr} {v : Value} (C : OwnCx p Z s m meth c own nm bytes maxL rt) (P : OwnPos p l e R s m args below meth c Z ws h0 T h cells slots)
    (w : (Cond.fieldLink own index R0 n d).before a0 Z = true ∨ (Cond.fieldLinkNest own index R0 n d host).before a0 Z = true) (via : Via Z R0 O n d) (F : Fld Z h a O n d v) (hd : decode bytes pc = .ok (.getfield index, 3))
    (K : ∀ T', OwnPos p l e R s m args below meth c Z ws h0 T' h cells slots → OwnDone p e below W (T'.setTop (mkF m (pc + 3) Ls (v :: rest)))) : OwnDone p e below W (T.setTop (mkF m pc Ls (.ref a :: rest))) := by
  obtain ⟨hx, hZ, hown, hnm, hby, hml, hret, hlk⟩ := C
  obtain ⟨locs, X, eT, e0, N, E0, G0⟩ := P
  obtain ⟨T', X', e', st⟩ := getF X hx hZ hown w via eT F (g := mkF m pc Ls (.ref a :: rest)) rfl rfl (hb hby hd)
  exact OwnDone.go st (K T' ⟨_, X', e', e0, N, E0, G0⟩)
theorem own_getS {R0 O n d host : String} {index : Nat} {v : Value} (C : OwnCx p Z s m meth c own nm bytes maxL rt) (P : OwnPos p l e R s m args below meth c Z ws h0 T h cells slots)
    (w : (Cond.fieldLink own index R0 n d).before a0 Z = true ∨ (Cond.fieldLinkNest own index R0 n d host).before a0 Z = true) (via : Via Z R0 O n d) (F : Sta Z Z.heap O n d v) (hd : decode bytes pc = .ok (.getstatic index, 3))
    (K : ∀ T', OwnPos p l e R s m args below meth c Z ws h0 T' h cells slots → OwnDone p e below W (T'.setTop (mkF m (pc + 3) Ls (v :: rest)))) : OwnDone p e below W (T.setTop (mkF m pc Ls rest)) := by
  have F := F.ext P.old
  obtain ⟨hx, hZ, hown, hnm, hby, hml, hret, hlk⟩ := C
  obtain ⟨locs, X, eT, e0, N, E0, G0⟩ := P
  obtain ⟨T', X', e', st⟩ := getS2 X hx hZ hown w via eT F (g := mkF m pc Ls rest) rfl (hb hby hd)
  exact OwnDone.go st (K T' ⟨_, X', e', e0, N, E0, G0⟩)
/-! calls, by the callee's contract -/
theorem own_callS {y : MethodName} {yb : ByteArray} {ym : Nat} {yr : Option FieldType} {rm : Room} {Q : Option Value → Heap → Prop} {index wd : Nat} {st : List Value} {as : List Value}
    (C : OwnCx p Z s m meth c own nm bytes maxL rt) (P : OwnPos p l e R s m args below meth c Z ws h0 T h cells slots)
    (w1 : (Cond.methodLink own index y).before a0 Z = true) (w2 : (Cond.static y).before a0 Z = true) (w3 : (Cond.initialized y.cls).before a0 Z = true) (w4 : (Cond.code y yb ym yr).before a0 Z = true)
    (hy : y.cls ≠ "java/lang/invoke/MethodHandle" ∧ y.cls ≠ "java/lang/invoke/VarHandle") (M : OwnMeets l y yb ym yr rm Z ws' as.toArray h Q) {ps : List FieldType} {pr : Option FieldType} (hpd : parseMethodDescriptor y.desc = some ⟨ps, pr⟩) (hlen : as.length = ps.length)
    (hst : st = as.reverse ++ rest) (hwd : (rest.map fun v => v.category).sum = wd) (hsz : Ls.size = maxL) (hd : decode bytes pc = .ok (.invokestatic index, 3))
    (hsub : ∀ a ∈ ws', a ∈ ws ∨ h0.size ≤ a) (hf : rm.frames + 1 ≤ R.frames) (hl : wd + (ym + 11) + rm.locals ≤ R.locals) (hc : cells + rm.cells ≤ R.cells) (hs : slots + rm.slots ≤ R.slots)
    (K : ∀ T' h' v, OwnPos p l e R s m args below meth c Z ws h0 T' h' (cells + rm.cells) (slots + rm.slots) → Keep h h' ws' → Q v h' → OwnDone p e below W (T'.setTop (mkF m (pc + 3) Ls (v.toList ++ rest)))) : OwnDone p e below W (T.setTop (mkF m pc Ls st)) := by
  have kp := P.keep
  obtain ⟨hx, hZ, hown, hnm, hby, hml, hret, hlk⟩ := C
  obtain ⟨locs, X, eT, e0, N, E0, G0⟩ := P
  obtain ⟨v, _, ⟨T', L', k', n'⟩, -, X', ⟨Lc, ⟨hQ, hK, NQ⟩, l1, l2, l3⟩, stp⟩ := Jvm.LawKit.callS X hx (y := y) hown (mvT hZ w1) (mvT hZ w2) (mvT hZ w3) (mvT hZ w4) hy (backOf (W := wd) (Q := fun v h2 L => Q v h2 ∧ Keep h h2 ws' ∧ ∀ y ∈ L, y.base ∈ ws' ∨ h.size ≤ y.base) (M []) hZ w4 w3 hf hl) (g := mkF m pc Ls st) rfl (by rw [hml]; exact hsz) (argsL := as) (rest := rest) (lenOf hpd hlen) hst (by show 2 * 0 + _ ≤ _; omega) (hb hby hd) (fun _ _ => ⟨rfl, eT, hc, hs⟩)
  dsimp only [Pt.U, Pt.locs, Pt.cells, Pt.slots] at X' l1 l2 l3 stp hQ hK
  subst l1 l2 l3
  have NN : ∀ y ∈ locs ++ Lc, y.base ∈ ws ∨ h0.size ≤ y.base := fun y hy => by
    rcases List.mem_append.mp hy with q | q
    · exact N y q
    · rcases NQ y q with q | q
      · exact hsub _ q
      · exact Or.inr (Nat.le_trans kp.1 q)
  exact OwnDone.go stp (K T' _ v ⟨_, X', rfl, e0, NN, E0, G0⟩ hK hQ)

theorem own_callV {y z : MethodName} {yb : ByteArray} {ym : Nat} {yr : Option FieldType} {rm : Room} {Q : Option Value → Heap → Prop} {index wd : Nat} {st : List Value} {as : List Value} {b : Addr} {CC : String}
    (C : OwnCx p Z s m meth c own nm bytes maxL rt) (P : OwnPos p l e R s m args below meth c Z ws h0 T h cells slots) (E : Exa Z h b CC)
    (w1 : (Cond.methodLink own index y).before a0 Z = true) (w2 : (Cond.declares y).before a0 Z = true) (nf : (Cond.selects y.cls y y).before a0 Z = true) (w5 : (Cond.selects CC y z).before a0 Z = true) (w6 : (Cond.instanceMethod z).before a0 Z = true) (w3 : (Cond.initialized z.cls).before a0 Z = true) (w4 : (Cond.code z yb ym yr).before a0 Z = true)
    (hy : y.cls ≠ "java/lang/invoke/MethodHandle" ∧ y.cls ≠ "java/lang/invoke/VarHandle") (M : OwnMeets l z yb ym yr rm Z ws' (.ref b :: as).toArray h Q) {ps : List FieldType} {pr : Option FieldType} (hpd : parseMethodDescriptor y.desc = some ⟨ps, pr⟩) (hlen : as.length = ps.length)
    (hst : st = as.reverse ++ .ref b :: rest) (hwd : (rest.map fun v => v.category).sum = wd) (hsz : Ls.size = maxL) (hd : decode bytes pc = .ok (.invokevirtual index, 3))
    (hsub : ∀ a ∈ ws', a ∈ ws ∨ h0.size ≤ a) (hf : rm.frames + 1 ≤ R.frames) (hl : wd + (ym + 11) + rm.locals ≤ R.locals) (hc : cells + rm.cells ≤ R.cells) (hs : slots + rm.slots ≤ R.slots)
    (K : ∀ T' h' v, OwnPos p l e R s m args below meth c Z ws h0 T' h' (cells + rm.cells) (slots + rm.slots) → Keep h h' ws' → Q v h' → OwnDone p e below W (T'.setTop (mkF m (pc + 3) Ls (v.toList ++ rest)))) : OwnDone p e below W (T.setTop (mkF m pc Ls st)) := by
  have kp := P.keep
  obtain ⟨hx, hZ, hown, hnm, hby, hml, hret, hlk⟩ := C
  obtain ⟨locs, X, eT, e0, N, E0, G0⟩ := P
  obtain ⟨cq, kq, qa, qb, qc⟩ := isOf hZ eT E
  obtain ⟨v, _, ⟨T', L', k', n'⟩, -, X', ⟨Lc, ⟨hQ, hK, NQ⟩, l1, l2, l3⟩, stp⟩ := X.virtualBack hx (y := y) (z := z) hown (mvT hZ w1) (mvT hZ w2) (notFace_of_selects (args := #[]) (mvT hZ nf)) (mvT hZ w5) (mvT hZ w6) hy (backOf (W := wd) (Q := fun v h2 L => Q v h2 ∧ Keep h h2 ws' ∧ ∀ y ∈ L, y.base ∈ ws' ∨ h.size ≤ y.base) (M []) hZ w4 w3 hf hl) qa qc (g := mkF m pc Ls st) rfl (by rw [hml]; exact hsz) (Steps.refl _) (argsL := as) (rest := rest) (lenOf hpd hlen) hst (by show 2 * 0 + _ ≤ _; omega) (hb hby hd) (fun _ _ => ⟨rfl, eT, hc, hs⟩)
  dsimp only [Pt.U, Pt.locs, Pt.cells, Pt.slots] at X' l1 l2 l3 stp hQ hK
  subst l1 l2 l3
  have NN : ∀ y ∈ locs ++ Lc, y.base ∈ ws ∨ h0.size ≤ y.base := fun y hy => by
    rcases List.mem_append.mp hy with q | q
    · exact N y q
    · rcases NQ y q with q | q
      · exact hsub _ q
      · exact Or.inr (Nat.le_trans kp.1 q)
  exact OwnDone.go (fun _ k => stp.trans k) (K T' _ v ⟨_, X', rfl, e0, NN, E0, G0⟩ hK hQ)

theorem own_callI {y : MethodName} {yb : ByteArray} {ym : Nat} {rm : Room} {Q : Option Value → Heap → Prop} {index wd : Nat} {st : List Value} {as : List Value} {b : Addr}
    (C : OwnCx p Z s m meth c own nm bytes maxL rt) (P : OwnPos p l e R s m args below meth c Z ws h0 T h cells slots) (hin : y.name = "<init>")
    (w1 : (Cond.methodLink own index y).before a0 Z = true) (w2 : (Cond.instanceMethod y).before a0 Z = true) (w3 : (Cond.initialized y.cls).before a0 Z = true) (w4 : (Cond.code y yb ym none).before a0 Z = true)
    (hy : y.cls ≠ "java/lang/invoke/MethodHandle" ∧ y.cls ≠ "java/lang/invoke/VarHandle") (M : OwnMeets l y yb ym none rm Z ws' (.ref b :: as).toArray h Q) {ps : List FieldType} {pr : Option FieldType} (hpd : parseMethodDescriptor y.desc = some ⟨ps, pr⟩) (hlen : as.length = ps.length)
    (hst : st = as.reverse ++ .ref b :: rest) (hwd : (rest.map fun v => v.category).sum = wd) (hsz : Ls.size = maxL) (hd : decode bytes pc = .ok (.invokespecial index, 3))
    (hsub : ∀ a ∈ ws', a ∈ ws ∨ h0.size ≤ a) (hf : rm.frames + 1 ≤ R.frames) (hl : wd + (ym + 11) + rm.locals ≤ R.locals) (hc : cells + rm.cells ≤ R.cells) (hs : slots + rm.slots ≤ R.slots)
    (K : ∀ T' h' v, OwnPos p l e R s m args below meth c Z ws h0 T' h' (cells + rm.cells) (slots + rm.slots) → Keep h h' ws' → Q v h' → OwnDone p e below W (T'.setTop (mkF m (pc + 3) Ls (v.toList ++ rest)))) : OwnDone p e below W (T.setTop (mkF m pc Ls st)) := by
  have kp := P.keep
  obtain ⟨hx, hZ, hown, hnm, hby, hml, hret, hlk⟩ := C
  obtain ⟨locs, X, eT, e0, N, E0, G0⟩ := P
  obtain ⟨v, _, ⟨T', L', k', n'⟩, -, X', ⟨Lc, ⟨hQ, hK, NQ⟩, l1, l2, l3⟩, stp⟩ := X.specialBack hx (y := y) hin hown (mvT hZ w1) (mvT hZ w2) (mvT hZ w4) hy (backOf (W := wd) (Q := fun v h2 L => Q v h2 ∧ Keep h h2 ws' ∧ ∀ y ∈ L, y.base ∈ ws' ∨ h.size ≤ y.base) (M []) hZ w4 w3 hf hl) (g := mkF m pc Ls st) rfl (by rw [hml]; exact hsz) (Steps.refl _) (a := b) (argsL := as) (rest := rest) (lenOf hpd hlen) hst (by show 2 * 0 + _ ≤ _; omega) (hb hby hd) (fun _ _ => ⟨rfl, eT, hc, hs⟩)
  dsimp only [Pt.U, Pt.locs, Pt.cells, Pt.slots] at X' l1 l2 l3 stp hQ hK
  subst l1 l2 l3
  have NN : ∀ y ∈ locs ++ Lc, y.base ∈ ws ∨ h0.size ≤ y.base := fun y hy => by
    rcases List.mem_append.mp hy with q | q
    · exact N y q
    · rcases NQ y q with q | q
      · exact hsub _ q
      · exact Or.inr (Nat.le_trans kp.1 q)
  exact OwnDone.go (fun _ k => stp.trans k) (K T' _ v ⟨_, X', rfl, e0, NN, E0, G0⟩ hK hQ)

theorem own_callP {y : MethodName} {yb : ByteArray} {ym : Nat} {yr : Option FieldType} {rm : Room} {Q : Option Value → Heap → Prop} {index wd : Nat} {st : List Value} {as : List Value} {b : Addr} {CC : String}
    (C : OwnCx p Z s m meth c own nm bytes maxL rt) (P : OwnPos p l e R s m args below meth c Z ws h0 T h cells slots) (E : Exa Z h b CC)
    (w1 : (Cond.methodLink own index y).before a0 Z = true) (w2 : (Cond.instanceMethod y).before a0 Z = true) {nI : Nat} (wi : (Cond.instantiable y.cls nI).before a0 Z = true) (w6 : (Cond.privateMethod y).before a0 Z = true) (w3 : (Cond.initialized y.cls).before a0 Z = true) (w4 : (Cond.code y yb ym yr).before a0 Z = true)
    (hy : y.cls ≠ "java/lang/invoke/MethodHandle" ∧ y.cls ≠ "java/lang/invoke/VarHandle") (M : OwnMeets l y yb ym yr rm Z ws' (.ref b :: as).toArray h Q) {ps : List FieldType} {pr : Option FieldType} (hpd : parseMethodDescriptor y.desc = some ⟨ps, pr⟩) (hlen : as.length = ps.length)
    (hst : st = as.reverse ++ .ref b :: rest) (hwd : (rest.map fun v => v.category).sum = wd) (hsz : Ls.size = maxL) (hd : decode bytes pc = .ok (.invokevirtual index, 3))
    (hsub : ∀ a ∈ ws', a ∈ ws ∨ h0.size ≤ a) (hf : rm.frames + 1 ≤ R.frames) (hl : wd + (ym + 11) + rm.locals ≤ R.locals) (hc : cells + rm.cells ≤ R.cells) (hs : slots + rm.slots ≤ R.slots)
    (K : ∀ T' h' v, OwnPos p l e R s m args below meth c Z ws h0 T' h' (cells + rm.cells) (slots + rm.slots) → Keep h h' ws' → Q v h' → OwnDone p e below W (T'.setTop (mkF m (pc + 3) Ls (v.toList ++ rest)))) : OwnDone p e below W (T.setTop (mkF m pc Ls st)) := by
  have kp := P.keep
  obtain ⟨hx, hZ, hown, hnm, hby, hml, hret, hlk⟩ := C
  obtain ⟨locs, X, eT, e0, N, E0, G0⟩ := P
  obtain ⟨cq, qa, qb⟩ := E.cell
  obtain ⟨ci, ki, i1, i2, i3, i4, -⟩ := Cond.instantiable_spec (mvT (args := args) hZ wi)
  have hni : ki.isInterface = false := by
    simp only [Bool.or_eq_false_iff] at i4; exact i4.1
  obtain ⟨v, _, ⟨T', L', k', n'⟩, -, X', ⟨Lc, ⟨hQ, hK, NQ⟩, l1, l2, l3⟩, stp⟩ := X.privateBack hx (y := y) hown (mvT hZ w1) (mvT hZ w2) (selects_self_of_private i1 i2 hni (Cond.privateMethod_at (mvP hZ w6 (args := #[]))) (mvT hZ w2) hy) (Cond.privateMethod_at (mvP hZ w6 (args := #[]))) (mvT hZ w4) hy (backOf (W := wd) (Q := fun v h2 L => Q v h2 ∧ Keep h h2 ws' ∧ ∀ y ∈ L, y.base ∈ ws' ∨ h.size ≤ y.base) (M []) hZ w4 w3 hf hl) (g := mkF m pc Ls st) rfl (by rw [hml]; exact hsz) (Steps.refl _) (a := b) (by rw [eT]; exact qa) qb (argsL := as) (rest := rest) (lenOf hpd hlen) hst (by show 2 * 0 + _ ≤ _; omega) (hb hby hd) (fun _ _ => ⟨rfl, eT, hc, hs⟩)
  dsimp only [Pt.U, Pt.locs, Pt.cells, Pt.slots] at X' l1 l2 l3 stp hQ hK
  subst l1 l2 l3
  have NN : ∀ y ∈ locs ++ Lc, y.base ∈ ws ∨ h0.size ≤ y.base := fun y hy => by
    rcases List.mem_append.mp hy with q | q
    · exact N y q
    · rcases NQ y q with q | q
      · exact hsub _ q
      · exact Or.inr (Nat.le_trans kp.1 q)
  exact OwnDone.go (fun _ k => stp.trans k) (K T' _ v ⟨_, X', rfl, e0, NN, E0, G0⟩ hK hQ)

theorem own_initO {index wd : Nat} {a : Addr} (C : OwnCx p Z s m meth c own nm bytes maxL rt) (P : OwnPos p l e R s m args below meth c Z ws h0 T h cells slots)
    (w1 : (Cond.methodLink own index Lib.objectInit).before a0 Z = true) (w2 : (Cond.instanceMethod Lib.objectInit).before a0 Z = true) (w3 : (Cond.code Lib.objectInit ⟨#[0xb1]⟩ 1 none).before a0 Z = true)
    (hwd : (rest.map fun v => v.category).sum = wd) (hsz : Ls.size = maxL) (hd : decode bytes pc = .ok (.invokespecial index, 3)) (hf : 1 ≤ R.frames) (hl : wd + 12 ≤ R.locals)
    (K : ∀ T', OwnPos p l e R s m args below meth c Z ws h0 T' h cells slots → OwnDone p e below W (T'.setTop (mkF m (pc + 3) Ls rest))) : OwnDone p e below W (T.setTop (mkF m pc Ls (.ref a :: rest))) := by
  obtain ⟨hx, hZ, hown, hnm, hby, hml, hret, hlk⟩ := C
  obtain ⟨locs, X, eT, e0, N, E0, G0⟩ := P
  obtain ⟨T', X', e', st⟩ := initO X hx hZ hown w1 w2 w3 eT (g := mkF m pc Ls (.ref a :: rest)) rfl (by rw [hml]; exact hsz) rfl (hb hby hd) hf (W := wd) (by show 2 * 0 + _ ≤ _; omega) hl
  exact OwnDone.go st (K T' ⟨_, X', e', e0, N, E0, G0⟩)
theorem own_nb {z : Int32} (h : z = 0 ∨ z = 1) : narrow .boolean (.int z) = .int z := by rcases h with rfl | rfl <;> rfl
theorem own_fb {z : Int32} (h : z = 0 ∨ z = 1) : fits .boolean (.int z) = true := by rcases h with rfl | rfl <;> rfl
theorem own_nref {t : FieldType} {v : Value} (ht : t.isReference = true) : narrow t v = v := by cases t <;> first | (cases ht; done) | rfl
theorem own_fref {t : FieldType} {v : Value} (ht : t.isReference = true) (hv : v.isRef = true) : fits t v = true := by
  cases t <;> first | (cases ht; done) | (cases v <;> first | (cases hv; done) | rfl)
/-! objects: all their fields at once -/
def OwnObj (Z : State) (h : Heap) (a : Addr) (C : String) (lay : List (String × String × String)) (vs : List Value) : Prop :=
  Exa Z h a C ∧ ∀ (i : Nat) (O n d : String) (v : Value), lay[i]? = some (O, n, d) → vs[i]? = some v → Fld Z h a O n d v
/-- the sheet lays these fields; their names are unlike -/
def OwnLaid (Z : State) (a0 : Array Value) (C : String) (lay : List (String × String × String)) : Prop :=
  (∀ q ∈ lay, Laid Z a0 C q.1 q.2.1 q.2.2) ∧ (lay.map fun q => q.2.1).Nodup ∧ ∀ q ∈ lay, ∃ t, parseFieldDescriptor q.2.2 = some t
section Obj
variable {a b : Addr} {CC : String} {lay : List (String × String × String)} {vs vs' : List Value}
theorem OwnObj.lt (F : OwnObj Z h a CC lay vs) : a < h.size := F.1.lt
theorem OwnObj.keep (F : OwnObj Z h a CC lay vs) (K : Keep h h' ws) (q : a ∉ ws) : OwnObj Z h' a CC lay vs :=
  ⟨F.1.keep K, fun i O n d v h1 h2 => (F.2 i O n d v h1 h2).keep K q⟩
theorem own_names (nd : (lay.map fun q => q.2.1).Nodup) {i j : Nat} {O n d O' n' d' : String} (hi : lay[i]? = some (O, n, d)) (hj : lay[j]? = some (O', n', d')) (ne : i ≠ j) : n ≠ n' := fun e => by
  have hl : i < (lay.map fun q => q.2.1).length := by simpa using (List.getElem?_eq_some_iff.mp hi).1
  refine ne ((List.getElem?_inj hl nd).mp ?_)
  simp [hi, hj, e]
theorem OwnObj.put {O n d : String} {v : Value} (F : OwnObj Z h a CC lay vs) (LL : OwnLaid Z a0 CC lay) (W : Wr h h' a (Jvm.RoadKit.slotOf Z O n d) v) (i : Nat) (hi : lay[i]? = some (O, n, d)) (hv : vs.set i v = vs') : OwnObj Z h' a CC lay vs' := by
  subst hv
  refine ⟨F.1.wr W, fun j O' n' d' v' h1 h2 => ?_⟩
  by_cases q : i = j
  · subst q
    cases hi.symm.trans h1
    have hl : i < vs.length := by
      have := (List.getElem?_eq_some_iff.mp h2).1
      simpa using this
    rw [List.getElem?_set_self hl] at h2
    cases h2
    exact (F.2 i _ _ _ _ h1 (List.getElem?_eq_getElem hl)).same W
  · rw [List.getElem?_set_ne q] at h2
    obtain ⟨t, ht⟩ := LL.2.2 (O, n, d) (List.mem_of_getElem? hi)
    obtain ⟨t', ht'⟩ := LL.2.2 (O', n', d') (List.mem_of_getElem? h1)
    have L1 : Laid Z a0 CC O' n' d' := LL.1 (O', n', d') (List.mem_of_getElem? h1)
    have L2 : Laid Z a0 CC O n d := LL.1 (O, n, d) (List.mem_of_getElem? hi)
    have t1 : parseFieldDescriptor d' = some t' := ht'
    have t2 : parseFieldDescriptor d = some t := ht
    have nn : n' ≠ n := own_names LL.2.1 h1 hi (Ne.symm q)
    have sn := Jvm.RoadKit.slot_ne L1 L2 nn t1 t2
    exact (F.2 j O' n' d' v' h1 h2).other W (Or.inr sn)
theorem own_new {n index : Nat} (C : OwnCx p Z s m meth c own nm bytes maxL rt) (P : OwnPos p l e R s m args below meth c Z ws h0 T h cells slots)
    (w : (Cond.classLink own index CC).before a0 Z = true) (wi : (Cond.instantiable CC n).before a0 Z = true) (wz : (Cond.initialized CC).before a0 Z = true) (LL : OwnLaid Z a0 CC lay)
    (hv : lay.map (fun q => (parseFieldDescriptor q.2.2).map defaultValue) = vs.map some) (hd : decode bytes pc = .ok (.new index, 3)) (hc : cells + 1 ≤ R.cells) (hl : slots + n ≤ R.slots)
    (K : ∀ T' h' a, a = h.size → a < h'.size → OwnPos p l e R s m args below meth c Z ws h0 T' h' (cells + 1) (slots + n) → Keep h h' [] → OwnObj Z h' a CC lay vs → OwnDone p e below W (T'.setTop (mkF m (pc + 3) Ls (.ref a :: rest)))) : OwnDone p e below W (T.setTop (mkF m pc Ls rest)) := by
  have kp := P.keep
  obtain ⟨hx, hZ, hown, hnm, hby, hml, hret, hlk⟩ := C
  obtain ⟨locs, X, eT, e0, N, E0, G0⟩ := P
  obtain ⟨T', h', X', e', E', A', D', -, st⟩ := newO X hx hZ hown w wi wz eT (g := mkF m pc Ls rest) rfl (hb hby hd) hc hl
  refine OwnDone.go st (K T' h' h.size rfl A'.lt ⟨_, X', e', e0, N, E0, G0⟩ ((Keep.refl h []).ext E') ⟨A', fun i O n d v h1 h2 => ?_⟩)
  have q : (lay.map (fun q => (parseFieldDescriptor q.2.2).map defaultValue))[i]? = (vs.map some)[i]? := by rw [hv]
  simp only [List.getElem?_map, h1, h2, Option.map_some] at q
  obtain ⟨t, ht⟩ := LL.2.2 _ (List.mem_of_getElem? h1)
  rw [ht] at q
  obtain rfl : defaultValue t = v := by simpa using q
  exact D' (LL.1 _ (List.mem_of_getElem? h1)) ht
theorem own_putO {R0 O n d : String} {index kk : Nat} {ty : FieldType} {v v' : Value} (C : OwnCx p Z s m meth c own nm bytes maxL rt) (P : OwnPos p l e R s m args below meth c Z ws h0 T h cells slots)
    (w : (Cond.fieldLink own index R0 n d).before a0 Z = true) (via : Via Z R0 O n d) (F : OwnObj Z h a CC lay vs) (LL : OwnLaid Z a0 CC lay) (i : Nat) (hi : lay[i]? = some (O, n, d)) {old : Value} (ho : vs[i]? = some old)
    (L : (Cond.lays CC O n d).before a0 Z = true ∨ ((Cond.laysFinal CC O n d).before a0 Z = true ∧ own = O ∧ nm = "<init>")) (wi : (Cond.instantiable CC kk).before a0 Z = true)
    (hty : parseFieldDescriptor d = some ty) (hn : narrow ty v = v') (hf : fits ty v' = true) (hge : a ∈ ws ∨ h0.size ≤ a) (hd : decode bytes pc = .ok (.putfield index, 3)) (hvs : vs.set i v' = vs')
    (K : ∀ T' h', OwnPos p l e R s m args below meth c Z ws h0 T' h' cells slots → Keep h h' [a] → OwnObj Z h' a CC lay vs' → OwnDone p e below W (T'.setTop (mkF m (pc + 3) Ls rest))) : OwnDone p e below W (T.setTop (mkF m pc Ls (v :: .ref a :: rest))) := by
  obtain ⟨hx, hZ, hown, hnm, hby, hml, hret, hlk⟩ := C
  obtain ⟨locs, X, eT, e0, N, E0, G0⟩ := P
  subst hnm
  obtain ⟨T', h', X', e', W', st⟩ := putFN X hx hZ hown w via eT (F.2 i _ _ _ _ hi ho) F.1 L wi hty hn hf (g := mkF m pc Ls (v :: .ref a :: rest)) rfl rfl (hb hby hd)
  have NN : ∀ y ∈ locs ++ [⟨a, Jvm.RoadKit.slotOf Z O n d⟩], y.base ∈ ws ∨ h0.size ≤ y.base := fun y hy => by
    rcases List.mem_append.mp hy with q | q
    · exact N y q
    · cases List.mem_singleton.mp q; exact hge
  exact OwnDone.go st (K T' h' ⟨_, X', e', e0, NN, E0, G0⟩ (Keep.of_wr W') (F.put LL W' i hi hvs))
end Obj
/-! arrays: all their elements at once -/
def OwnAry (Z : State) (h : Heap) (a : Addr) (k : ClassId) (ty : FieldType) (vs : List Value) : Prop := ∃ c : Cell, Arr Z h a c ty ∧ c.cls = k ∧ c.slots.toList = vs
section Ary
variable {a b : Addr} {k : ClassId} {ty : FieldType} {vs vs' : List Value} {j : Int32}
theorem OwnAry.lt (F : OwnAry Z h a k ty vs) : a < h.size := by obtain ⟨c, A, -⟩ := F; exact A.lt
theorem OwnAry.keep (F : OwnAry Z h a k ty vs) (K : Keep h h' ws) (q : a ∉ ws) : OwnAry Z h' a k ty vs := by
  obtain ⟨c, A, r⟩ := F; exact ⟨c, ⟨K.2.1 a c A.1 q, A.2⟩, r⟩
theorem OwnAry.ext (F : OwnAry Z h a k ty vs) (E : Ext h h') : OwnAry Z h' a k ty vs := by obtain ⟨c, A, r⟩ := F; exact ⟨c, A.ext E, r⟩
theorem OwnAry.set {i : Nat} {v : Value} (F : OwnAry Z h a k ty vs) (W : Wr h h' a i v) : OwnAry Z h' a k ty (vs.set i v) := by
  obtain ⟨c, A, r1, r2⟩ := F
  exact ⟨_, A.same W, r1, by rw [← r2]; simp [Cell.setSlot]⟩
theorem own_in {c : Cell} (r : c.slots.toList = vs) (h1 : ¬ j < 0) (h2 : j.toNatClampNeg < vs.length) : ¬ (j < 0 ∨ c.slots.size ≤ j.toNatClampNeg) := by
  have e : c.slots.size = vs.length := by rw [← r]; simp
  rw [e]; rintro (q | q)
  · exact h1 q
  · omega
theorem own_at {c : Cell} {i : Nat} (r : c.slots.toList = vs) : c.slots[i]? = vs[i]? := by rw [← r]; simp
theorem own_cls {cc : Cell} {ad : String} (A : Arr Z h a cc ty) (E : Exa Z h a ad) : Z.vm.findClass ad = some cc.cls := by
  obtain ⟨c1, k1, h1, h2, -⟩ := E
  cases A.1.symm.trans h1
  exact h2
theorem OwnAry.ins {cn : String} (F : OwnAry Z h a k ty vs) (hk : Z.vm.findClass cn = some k) : Ins Z h a cn true := by
  obtain ⟨c1, A, rfl, -⟩ := F
  exact ⟨c1, _, A.1, hk, by simp [A.plain, Vm.assignable_self]⟩
theorem OwnAry.insC {cn C' : String} (F : OwnAry Z h a k ty vs) (hk : Z.vm.findClass cn = some k) (w : (Cond.castable cn C').before a0 Z = true) : Ins Z h a C' true := by
  obtain ⟨c1, A, rfl, -⟩ := F
  obtain ⟨d1, d2, g1, g2, g3⟩ := Cond.castable_spec w
  cases hk.symm.trans g1
  exact ⟨c1, d2, A.1, g2, by simp [A.plain, g3]⟩
theorem OwnAry.sto {C' : String} {y : Addr} (F : OwnAry Z h a k ty vs) (O : Ovr Z k C') (I : Ins Z h y C' true) : Sto Z h a (.ref y) := by
  obtain ⟨c1, A, q, -⟩ := F; exact Sto.ofV A q O I
theorem OwnAry.stoA {C' : String} {t : FieldType} {y : Addr} (F : OwnAry Z h a k ty vs) (O : OvrA Z k t C') (I : Ins Z h y C' true) : Sto Z h a (.ref y) := by
  obtain ⟨c1, A, q, -⟩ := F; exact Sto.ofVA A q O I
theorem own_newP {aty : ArrayType} {n : Int32} {cap : Nat} {ad : String} (C : OwnCx p Z s m meth c own nm bytes maxL rt) (P : OwnPos p l e R s m args below meth c Z ws h0 T h cells slots)
    (w : (Cond.arrayClass (newarray.typeOf aty)).before a0 Z = true) (hd : decode bytes pc = .ok (.newarray aty, 2)) (hn : ¬ n < 0) (hcap : n.toNatClampNeg ≤ cap) (hbb : cap * 8 ≤ 536870912) (hvs : List.replicate n.toNatClampNeg (defaultValue (newarray.typeOf aty)) = vs) (had : "[" ++ (newarray.typeOf aty).toString = ad) (hc : cells + 1 ≤ R.cells) (hl : slots + cap ≤ R.slots)
    (K : ∀ T' h' a k, a = h.size → a < h'.size → OwnPos p l e R s m args below meth c Z ws h0 T' h' (cells + 1) (slots + cap) → Keep h h' [] → OwnAry Z h' a k (newarray.typeOf aty) vs → Z.vm.findClass ad = some k → OwnDone p e below W (T'.setTop (mkF m (pc + 2) Ls (.ref a :: rest)))) : OwnDone p e below W (T.setTop (mkF m pc Ls (.int n :: rest))) := by
  obtain ⟨hx, hZ, hown, hnm, hby, hml, hret, hlk⟩ := C
  obtain ⟨locs, X, eT, e0, N, E0, G0⟩ := P
  obtain ⟨T', h', cA, X', e', E', A', EX, st⟩ := newPE X hx hZ w eT (g := mkF m pc Ls (.int n :: rest)) rfl (hb hby hd) rfl hn hcap hbb hc hl had
  exact OwnDone.go st (K T' h' h.size cA rfl A'.lt ⟨_, X', e', e0, N, E0, G0⟩ ((Keep.refl h []).ext E') ⟨_, A', rfl, by rw [← hvs]; simp [newA]⟩ (own_cls A' EX))
theorem own_newR {CC : String} {index : Nat} {n : Int32} {cap : Nat} {ad : String} (C : OwnCx p Z s m meth c own nm bytes maxL rt) (P : OwnPos p l e R s m args below meth c Z ws h0 T h cells slots)
    (w1 : (Cond.classLink own index CC).before a0 Z = true) (w2 : (Cond.arrayOver (.object CC)).before a0 Z = true) (hd : decode bytes pc = .ok (.anewarray index, 3)) (hn : ¬ n < 0) (hcap : n.toNatClampNeg ≤ cap) (hbb : cap * 8 ≤ 536870912) (hvs : List.replicate n.toNatClampNeg Value.null = vs) (had : "[" ++ (FieldType.object CC).toString = ad) (hc : cells + 1 ≤ R.cells) (hl : slots + cap ≤ R.slots)
    (K : ∀ T' h' a k, a = h.size → a < h'.size → OwnPos p l e R s m args below meth c Z ws h0 T' h' (cells + 1) (slots + cap) → Keep h h' [] → OwnAry Z h' a k (.object CC) vs → Z.vm.findClass ad = some k → Ovr Z k CC → OwnDone p e below W (T'.setTop (mkF m (pc + 3) Ls (.ref a :: rest)))) : OwnDone p e below W (T.setTop (mkF m pc Ls (.int n :: rest))) := by
  obtain ⟨hx, hZ, hown, hnm, hby, hml, hret, hlk⟩ := C
  obtain ⟨locs, X, eT, e0, N, E0, G0⟩ := P
  obtain ⟨T', h', cA, X', e', E', A', EX, O', st⟩ := newRE X hx hZ hown w1 w2 eT (g := mkF m pc Ls (.int n :: rest)) rfl (hb hby hd) rfl hn hcap hbb hc hl had
  exact OwnDone.go st (K T' h' h.size cA rfl A'.lt ⟨_, X', e', e0, N, E0, G0⟩ ((Keep.refl h []).ext E') ⟨_, A', rfl, by rw [← hvs]; simp [newA, defaultValue]⟩ (own_cls A' EX) O')
theorem own_newA {CC : String} {t : FieldType} {index : Nat} {n : Int32} {cap : Nat} {ad : String} (C : OwnCx p Z s m meth c own nm bytes maxL rt) (P : OwnPos p l e R s m args below meth c Z ws h0 T h cells slots)
    (hC : (FieldType.array t).toString = CC) (w1 : (Cond.classLink own index CC).before a0 Z = true) (w2 : (Cond.arrayOver (.array t)).before a0 Z = true) (hd : decode bytes pc = .ok (.anewarray index, 3)) (hn : ¬ n < 0) (hcap : n.toNatClampNeg ≤ cap) (hbb : cap * 8 ≤ 536870912) (hvs : List.replicate n.toNatClampNeg Value.null = vs) (had : "[" ++ CC = ad) (hc : cells + 1 ≤ R.cells) (hl : slots + cap ≤ R.slots)
    (K : ∀ T' h' a k, a = h.size → a < h'.size → OwnPos p l e R s m args below meth c Z ws h0 T' h' (cells + 1) (slots + cap) → Keep h h' [] → OwnAry Z h' a k (.array t) vs → Z.vm.findClass ad = some k → OvrA Z k t CC → OwnDone p e below W (T'.setTop (mkF m (pc + 3) Ls (.ref a :: rest)))) : OwnDone p e below W (T.setTop (mkF m pc Ls (.int n :: rest))) := by
  obtain ⟨hx, hZ, hown, hnm, hby, hml, hret, hlk⟩ := C
  obtain ⟨locs, X, eT, e0, N, E0, G0⟩ := P
  obtain ⟨T', h', cA, X', e', E', A', EX, O', st⟩ := newRA X hx hZ hown hC w1 w2 eT (g := mkF m pc Ls (.int n :: rest)) rfl (hb hby hd) rfl hn hcap hbb hc hl had
  exact OwnDone.go st (K T' h' h.size cA rfl A'.lt ⟨_, X', e', e0, N, E0, G0⟩ ((Keep.refl h []).ext E') ⟨_, A', rfl, by rw [← hvs]; simp [newA, defaultValue]⟩ (own_cls A' EX) O')
theorem own_iastore {x : Int32} (C : OwnCx p Z s m meth c own nm bytes maxL rt) (P : OwnPos p l e R s m args below meth c Z ws h0 T h cells slots)
    (F : OwnAry Z h a k .int vs) (h1 : ¬ j < 0) (h2 : j.toNatClampNeg < vs.length) (hge : a ∈ ws ∨ h0.size ≤ a) (hd : decode bytes pc = .ok (.iastore, 1)) (hvs : vs.set j.toNatClampNeg (.int x) = vs')
    (K : ∀ T' h', OwnPos p l e R s m args below meth c Z ws h0 T' h' cells slots → Keep h h' [a] → OwnAry Z h' a k .int vs' → OwnDone p e below W (T'.setTop (mkF m (pc + 1) Ls rest))) : OwnDone p e below W (T.setTop (mkF m pc Ls ((.int x) :: .int j :: .ref a :: rest))) := by
  obtain ⟨hx, hZ, hown, hnm, hby, hml, hret, hlk⟩ := C
  obtain ⟨locs, X, eT, e0, N, E0, G0⟩ := P
  obtain ⟨c0, A0, r1, r2⟩ := id F
  obtain ⟨T', h', X', e', W', st⟩ := stI X hx hZ eT A0 (own_in r2 h1 h2) (g := mkF m pc Ls ((.int x) :: .int j :: .ref a :: rest)) rfl rfl (hb hby hd)
  have NN : ∀ y ∈ locs ++ [⟨a, j.toNatClampNeg⟩], y.base ∈ ws ∨ h0.size ≤ y.base := fun y hy => by
    rcases List.mem_append.mp hy with q | q
    · exact N y q
    · cases List.mem_singleton.mp q; exact hge
  exact OwnDone.go st (K T' h' ⟨_, X', e', e0, NN, E0, G0⟩ (Keep.of_wr W') (hvs ▸ F.set W'))
theorem own_lastore {x : Int64} (C : OwnCx p Z s m meth c own nm bytes maxL rt) (P : OwnPos p l e R s m args below meth c Z ws h0 T h cells slots)
    (F : OwnAry Z h a k .long vs) (h1 : ¬ j < 0) (h2 : j.toNatClampNeg < vs.length) (hge : a ∈ ws ∨ h0.size ≤ a) (hd : decode bytes pc = .ok (.lastore, 1)) (hvs : vs.set j.toNatClampNeg (.long x) = vs')
    (K : ∀ T' h', OwnPos p l e R s m args below meth c Z ws h0 T' h' cells slots → Keep h h' [a] → OwnAry Z h' a k .long vs' → OwnDone p e below W (T'.setTop (mkF m (pc + 1) Ls rest))) : OwnDone p e below W (T.setTop (mkF m pc Ls ((.long x) :: .int j :: .ref a :: rest))) := by
  obtain ⟨hx, hZ, hown, hnm, hby, hml, hret, hlk⟩ := C
  obtain ⟨locs, X, eT, e0, N, E0, G0⟩ := P
  obtain ⟨c0, A0, r1, r2⟩ := id F
  obtain ⟨T', h', X', e', W', st⟩ := stJ X hx hZ eT A0 (own_in r2 h1 h2) (g := mkF m pc Ls ((.long x) :: .int j :: .ref a :: rest)) rfl rfl (hb hby hd)
  have NN : ∀ y ∈ locs ++ [⟨a, j.toNatClampNeg⟩], y.base ∈ ws ∨ h0.size ≤ y.base := fun y hy => by
    rcases List.mem_append.mp hy with q | q
    · exact N y q
    · cases List.mem_singleton.mp q; exact hge
  exact OwnDone.go st (K T' h' ⟨_, X', e', e0, NN, E0, G0⟩ (Keep.of_wr W') (hvs ▸ F.set W'))
theorem own_castore {x : Int32} (C : OwnCx p Z s m meth c own nm bytes maxL rt) (P : OwnPos p l e R s m args below meth c Z ws h0 T h cells slots)
    (F : OwnAry Z h a k .char vs) (h1 : ¬ j < 0) (h2 : j.toNatClampNeg < vs.length) (hge : a ∈ ws ∨ h0.size ≤ a) (hd : decode bytes pc = .ok (.castore, 1)) (hvs : vs.set j.toNatClampNeg (.int (nar .char x)) = vs')
    (K : ∀ T' h', OwnPos p l e R s m args below meth c Z ws h0 T' h' cells slots → Keep h h' [a] → OwnAry Z h' a k .char vs' → OwnDone p e below W (T'.setTop (mkF m (pc + 1) Ls rest))) : OwnDone p e below W (T.setTop (mkF m pc Ls (.int x :: .int j :: .ref a :: rest))) := by
  obtain ⟨hx, hZ, hown, hnm, hby, hml, hret, hlk⟩ := C
  obtain ⟨locs, X, eT, e0, N, E0, G0⟩ := P
  obtain ⟨c0, A0, r1, r2⟩ := id F
  obtain ⟨T', h', X', e', W', st⟩ := stC X hx hZ eT A0 (own_in r2 h1 h2) (g := mkF m pc Ls (.int x :: .int j :: .ref a :: rest)) rfl rfl (hb hby hd)
  have NN : ∀ y ∈ locs ++ [⟨a, j.toNatClampNeg⟩], y.base ∈ ws ∨ h0.size ≤ y.base := fun y hy => by
    rcases List.mem_append.mp hy with q | q
    · exact N y q
    · cases List.mem_singleton.mp q; exact hge
  exact OwnDone.go st (K T' h' ⟨_, X', e', e0, NN, E0, G0⟩ (Keep.of_wr W') (hvs ▸ F.set W'))
theorem own_bastore {x : Int32} (C : OwnCx p Z s m meth c own nm bytes maxL rt) (P : OwnPos p l e R s m args below meth c Z ws h0 T h cells slots)
    (F : OwnAry Z h a k .byte vs) (h1 : ¬ j < 0) (h2 : j.toNatClampNeg < vs.length) (hge : a ∈ ws ∨ h0.size ≤ a) (hd : decode bytes pc = .ok (.bastore, 1)) (hvs : vs.set j.toNatClampNeg (.int (nar .byte x)) = vs')
    (K : ∀ T' h', OwnPos p l e R s m args below meth c Z ws h0 T' h' cells slots → Keep h h' [a] → OwnAry Z h' a k .byte vs' → OwnDone p e below W (T'.setTop (mkF m (pc + 1) Ls rest))) : OwnDone p e below W (T.setTop (mkF m pc Ls (.int x :: .int j :: .ref a :: rest))) := by
  obtain ⟨hx, hZ, hown, hnm, hby, hml, hret, hlk⟩ := C
  obtain ⟨locs, X, eT, e0, N, E0, G0⟩ := P
  obtain ⟨c0, A0, r1, r2⟩ := id F
  obtain ⟨T', h', X', e', W', st⟩ := stB X hx hZ eT A0 (own_in r2 h1 h2) (g := mkF m pc Ls (.int x :: .int j :: .ref a :: rest)) rfl rfl (hb hby hd)
  have NN : ∀ y ∈ locs ++ [⟨a, j.toNatClampNeg⟩], y.base ∈ ws ∨ h0.size ≤ y.base := fun y hy => by
    rcases List.mem_append.mp hy with q | q
    · exact N y q
    · cases List.mem_singleton.mp q; exact hge
  exact OwnDone.go st (K T' h' ⟨_, X', e', e0, NN, E0, G0⟩ (Keep.of_wr W') (hvs ▸ F.set W'))
theorem own_aastore {v : Value} (C : OwnCx p Z s m meth c own nm bytes maxL rt) (P : OwnPos p l e R s m args below meth c Z ws h0 T h cells slots)
    (F : OwnAry Z h a k ty vs) (hty : ty.isReference = true) (h1 : ¬ j < 0) (h2 : j.toNatClampNeg < vs.length) (S : Sto Z h a v) (hge : a ∈ ws ∨ h0.size ≤ a) (hd : decode bytes pc = .ok (.aastore, 1)) (hvs : vs.set j.toNatClampNeg v = vs')
    (K : ∀ T' h', OwnPos p l e R s m args below meth c Z ws h0 T' h' cells slots → Keep h h' [a] → OwnAry Z h' a k ty vs' → OwnDone p e below W (T'.setTop (mkF m (pc + 1) Ls rest))) : OwnDone p e below W (T.setTop (mkF m pc Ls (v :: .int j :: .ref a :: rest))) := by
  obtain ⟨hx, hZ, hown, hnm, hby, hml, hret, hlk⟩ := C
  obtain ⟨locs, X, eT, e0, N, E0, G0⟩ := P
  obtain ⟨c0, A0, r1, r2⟩ := id F
  obtain ⟨T', h', X', e', W', st⟩ := stR X hx hZ eT A0 (own_in r2 h1 h2) hty S (g := mkF m pc Ls (v :: .int j :: .ref a :: rest)) rfl rfl (hb hby hd)
  have NN : ∀ y ∈ locs ++ [⟨a, j.toNatClampNeg⟩], y.base ∈ ws ∨ h0.size ≤ y.base := fun y hy => by
    rcases List.mem_append.mp hy with q | q
    · exact N y q
    · cases List.mem_singleton.mp q; exact hge
  exact OwnDone.go st (K T' h' ⟨_, X', e', e0, NN, E0, G0⟩ (Keep.of_wr W') (hvs ▸ F.set W'))
theorem own_iaload {v : Value} {target : State} (C : OwnCx p Z s m meth c own nm bytes maxL rt) (P : OwnPos p l e R s m args below meth c Z ws h0 T h cells slots)
    (F : OwnAry Z h a k .int vs) (h1 : ¬ j < 0) (hv : vs[j.toNatClampNeg]? = some v) (hd : decode bytes pc = .ok (.iaload, 1))
    (K : Steps p.tables e below (T.setTop (mkF m (pc + 1) Ls (v :: rest))) target) : Steps p.tables e below (T.setTop (mkF m pc Ls (.int j :: .ref a :: rest))) target := by
  obtain ⟨hx, hZ, hown, hnm, hby, hml, hret, hlk⟩ := C
  obtain ⟨locs, X, eT, e0, N, E0, G0⟩ := P
  obtain ⟨c0, A0, r1, r2⟩ := F
  exact X.iaload hx (j := j) (v := v) (by rw [eT]; exact A0.1) (State.isArrayOf_alike hZ.alike A0.2.1) A0.2.2 (own_in r2 h1 (List.getElem?_eq_some_iff.mp hv).1) ((own_at r2).trans hv) (g := mkF m pc Ls (.int j :: .ref a :: rest)) rfl rfl (hb hby hd) target K
theorem own_laload {v : Value} {target : State} (C : OwnCx p Z s m meth c own nm bytes maxL rt) (P : OwnPos p l e R s m args below meth c Z ws h0 T h cells slots)
    (F : OwnAry Z h a k .long vs) (h1 : ¬ j < 0) (hv : vs[j.toNatClampNeg]? = some v) (hd : decode bytes pc = .ok (.laload, 1))
    (K : Steps p.tables e below (T.setTop (mkF m (pc + 1) Ls (v :: rest))) target) : Steps p.tables e below (T.setTop (mkF m pc Ls (.int j :: .ref a :: rest))) target := by
  obtain ⟨hx, hZ, hown, hnm, hby, hml, hret, hlk⟩ := C
  obtain ⟨locs, X, eT, e0, N, E0, G0⟩ := P
  obtain ⟨c0, A0, r1, r2⟩ := F
  exact X.laload hx (j := j) (v := v) (by rw [eT]; exact A0.1) (State.isArrayOf_alike hZ.alike A0.2.1) A0.2.2 (own_in r2 h1 (List.getElem?_eq_some_iff.mp hv).1) ((own_at r2).trans hv) (g := mkF m pc Ls (.int j :: .ref a :: rest)) rfl rfl (hb hby hd) target K
theorem own_caload {v : Value} {target : State} (C : OwnCx p Z s m meth c own nm bytes maxL rt) (P : OwnPos p l e R s m args below meth c Z ws h0 T h cells slots)
    (F : OwnAry Z h a k .char vs) (h1 : ¬ j < 0) (hv : vs[j.toNatClampNeg]? = some v) (hd : decode bytes pc = .ok (.caload, 1))
    (K : Steps p.tables e below (T.setTop (mkF m (pc + 1) Ls (v :: rest))) target) : Steps p.tables e below (T.setTop (mkF m pc Ls (.int j :: .ref a :: rest))) target := by
  obtain ⟨hx, hZ, hown, hnm, hby, hml, hret, hlk⟩ := C
  obtain ⟨locs, X, eT, e0, N, E0, G0⟩ := P
  obtain ⟨c0, A0, r1, r2⟩ := F
  exact X.caload hx (j := j) (v := v) (by rw [eT]; exact A0.1) (State.isArrayOf_alike hZ.alike A0.2.1) A0.2.2 (own_in r2 h1 (List.getElem?_eq_some_iff.mp hv).1) ((own_at r2).trans hv) (g := mkF m pc Ls (.int j :: .ref a :: rest)) rfl rfl (hb hby hd) target K
theorem own_baload {v : Value} {target : State} (C : OwnCx p Z s m meth c own nm bytes maxL rt) (P : OwnPos p l e R s m args below meth c Z ws h0 T h cells slots)
    (F : OwnAry Z h a k .byte vs) (h1 : ¬ j < 0) (hv : vs[j.toNatClampNeg]? = some v) (hd : decode bytes pc = .ok (.baload, 1))
    (K : Steps p.tables e below (T.setTop (mkF m (pc + 1) Ls (v :: rest))) target) : Steps p.tables e below (T.setTop (mkF m pc Ls (.int j :: .ref a :: rest))) target := by
  obtain ⟨hx, hZ, hown, hnm, hby, hml, hret, hlk⟩ := C
  obtain ⟨locs, X, eT, e0, N, E0, G0⟩ := P
  obtain ⟨c0, A0, r1, r2⟩ := F
  exact X.baloadBytes hx (j := j) (v := v) (by rw [eT]; exact A0.1) (State.isArrayOf_alike hZ.alike A0.2.1) A0.2.2 (own_in r2 h1 (List.getElem?_eq_some_iff.mp hv).1) ((own_at r2).trans hv) (g := mkF m pc Ls (.int j :: .ref a :: rest)) rfl rfl (hb hby hd) target K
theorem own_aaload {v : Value} {target : State} (C : OwnCx p Z s m meth c own nm bytes maxL rt) (P : OwnPos p l e R s m args below meth c Z ws h0 T h cells slots)
    (F : OwnAry Z h a k ty vs) (hty : ty.isReference = true) (h1 : ¬ j < 0) (hv : vs[j.toNatClampNeg]? = some v) (hd : decode bytes pc = .ok (.aaload, 1))
    (K : Steps p.tables e below (T.setTop (mkF m (pc + 1) Ls (v :: rest))) target) : Steps p.tables e below (T.setTop (mkF m pc Ls (.int j :: .ref a :: rest))) target := by
  obtain ⟨hx, hZ, hown, hnm, hby, hml, hret, hlk⟩ := C
  obtain ⟨locs, X, eT, e0, N, E0, G0⟩ := P
  obtain ⟨c0, A0, r1, r2⟩ := F
  exact X.aaload hx (j := j) (v := v) (by rw [eT]; exact A0.1) (State.isArrayOf_alike hZ.alike A0.2.1) hty A0.2.2 (own_in r2 h1 (List.getElem?_eq_some_iff.mp hv).1) ((own_at r2).trans hv) (g := mkF m pc Ls (.int j :: .ref a :: rest)) rfl rfl (hb hby hd) target K
theorem own_alen {target : State} (C : OwnCx p Z s m meth c own nm bytes maxL rt) (P : OwnPos p l e R s m args below meth c Z ws h0 T h cells slots)
    (F : OwnAry Z h a k ty vs) (hd : decode bytes pc = .ok (.arraylength, 1))
    (K : Steps p.tables e below (T.setTop (mkF m (pc + 1) Ls (.int vs.length.toInt32 :: rest))) target) : Steps p.tables e below (T.setTop (mkF m pc Ls (.ref a :: rest))) target := by
  obtain ⟨hx, hZ, hown, hnm, hby, hml, hret, hlk⟩ := C
  obtain ⟨locs, X, eT, e0, N, E0, G0⟩ := P
  obtain ⟨c0, A0, r1, r2⟩ := F
  have e1 : c0.slots.size = vs.length := by rw [← r2]; simp
  exact X.arraylength hx (by rw [eT]; exact A0.1) (State.isArrayOf_alike hZ.alike A0.2.1) (g := mkF m pc Ls (.ref a :: rest)) rfl rfl (hb hby hd) target (by rw [e1]; exact K)
end Ary
end Own

theorem pd_0 : parseMethodDescriptor "(B)Z" = some ⟨[.byte], some .boolean⟩ := by decide +kernel
theorem own_three (x : Int32) : (x &&& 2147483647) % 3 = 0 ∨ (x &&& 2147483647) % 3 = 1 ∨ (x &&& 2147483647) % 3 = 2 := by
  have h1 := c_and x 2147483647 (by decide)
  have h2 := (c_irem (x &&& 2147483647) 3 3 (by decide)).1 h1.1
  simp only [← Int32.toInt_inj]
  have e0 : (0 : Int32).toInt = 0 := by decide
  have e1 : (1 : Int32).toInt = 1 := by decide
  have e2 : (2 : Int32).toInt = 2 := by decide
  rw [h2, e0, e1, e2]
  omega
theorem own_byte (b k : Int32) (h0 : 0 ≤ k.toInt) (h1 : k.toInt < 128) : b.toInt8.toInt32 = k ↔ b &&& 255 = k := by
  have e1 := c_i2b b
  have e2 := c_mask b 255 8 (by decide) (by decide)
  rw [← Int32.toInt_inj, ← Int32.toInt_inj, e2]
  omega
theorem own_ebc (b : Int32) : (if b.toInt8.toInt32 = 21 ∨ b.toInt8.toInt32 = 37 then (1 : Int32) else 0) = (if b &&& 255 = 21 ∨ b &&& 255 = 37 then (1 : Int32) else 0) := by
  simp only [own_byte b 21 (by decide) (by decide), own_byte b 37 (by decide) (by decide)]
theorem own_asc (b : Int32) : (if b.toInt8.toInt32 = 10 then (1 : Int32) else 0) = (if b &&& 255 = 10 then (1 : Int32) else 0) := by
  simp only [own_byte b 10 (by decide) (by decide)]
theorem own_fstart {s : State} {args : Array Value} {t : Term} {C n d : String} {a : Addr} {k : Int32} (ht : t.eval args s none [] s = some (.ref a)) (h : (Cond.eq (.field t C n d) (.int k)).value args s none s [] = some true) : Fld s s.heap a C n d (.int k) := by
  obtain ⟨x, y, ex, ey, -, kin⟩ := cmp_v (Or.inl h)
  cases ey
  obtain ⟨z, rfl⟩ := kin
  obtain rfl : z = k := gotT (Cond.eq_ints ex rfl) h
  exact Fld.start ((fld_at ht).symm.trans ex)
theorem d1_0 : decode prog_132_method_8_code 0 = .ok (.aload_n 0, 1) := by decide +kernel
theorem d1_1 : decode prog_132_method_8_code 1 = .ok (.getfield 39, 3) := by decide +kernel
theorem d1_4 : decode prog_132_method_8_code 4 = .ok (.ifCond .eq 23, 3) := by decide +kernel
theorem d1_7 : decode prog_132_method_8_code 7 = .ok (.iload_n 1, 1) := by decide +kernel
theorem d1_8 : decode prog_132_method_8_code 8 = .ok (.bipush 21, 2) := by decide +kernel
theorem d1_10 : decode prog_132_method_8_code 10 = .ok (.if_icmp .eq 9, 3) := by decide +kernel
theorem d1_13 : decode prog_132_method_8_code 13 = .ok (.iload_n 1, 1) := by decide +kernel
theorem d1_14 : decode prog_132_method_8_code 14 = .ok (.bipush 37, 2) := by decide +kernel
theorem d1_16 : decode prog_132_method_8_code 16 = .ok (.if_icmp .ne 7, 3) := by decide +kernel
theorem d1_19 : decode prog_132_method_8_code 19 = .ok (.iconst 1, 1) := by decide +kernel
theorem d1_20 : decode prog_132_method_8_code 20 = .ok (.goto 18, 3) := by decide +kernel
theorem d1_23 : decode prog_132_method_8_code 23 = .ok (.iconst 0, 1) := by decide +kernel
theorem d1_24 : decode prog_132_method_8_code 24 = .ok (.goto 14, 3) := by decide +kernel
theorem d1_38 : decode prog_132_method_8_code 38 = .ok (.ireturn, 1) := by decide +kernel
theorem pn1 : plainName "com/example/glasshouse/glasshouse/model/CodePage" = true := by first | (simp [plainName, overriddenIn]; done) | decide +kernel
theorem ef1 (m : MethodId) (a1 : Addr) (q : Int32)  : entryFrame m #[(.ref a1), (.int q)] 2 = mkF m 0 #[.val (.ref a1), .val (.int q)] [] := by first | (simp [entryFrame, mkF, argsToLocals, Value.category]; done) | rfl
set_option maxRecDepth 65536 in
set_option maxHeartbeats 40000000 in
theorem rm1 (l : Launch) (Z : State) (a0 : Array Value) (hw : ∀ d ∈ tables_1, d.before a0 Z = true) (a1 : Addr) (q : Int32)  (h0 : Heap) (hE : Ext Z.heap h0)  (F1 : Fld Z h0 a1 "com/example/glasshouse/glasshouse/model/CodePage" "ebcdic" "Z" (.int 1)) :
    OwnMeets l (⟨"com/example/glasshouse/glasshouse/model/CodePage", "isLineEnd", "(B)Z"⟩ : MethodName) prog_132_method_8_code 2 (some .boolean) ({ frames := 0, cells := 0, slots := 0, locals := 0 } : Room) Z [] #[(.ref a1), (.int q)] h0 (fun v h => v = some (.int (if q = 21 ∨ q = 37 then 1 else 0)) ∧ h0 = h) := by
  refine OwnMeets.of (plainFor_of_name pn1) hE all0 ?_
  intro p e s m below meth c T C P
  have hx := C.1
  have hby := C.2.2.2.2.1
  rw [show entryFrame m #[(.ref a1), (.int q)] 2 = _ from ef1 m a1 q]
  show OwnDone p e below _ (T.setTop (mkF m 0 #[.val (.ref a1), .val (.int q)] []))
  refine OwnDone.go (A := (T.setTop (mkF m 1 #[.val (.ref a1), .val (.int q)] [(.ref a1)]))) (fun tQ kQ => ?_) ?_
  · refine XS.aloadN P.here hx rfl (hb hby d1_0) rfl rfl ?_
    show Steps p.tables e below (T.setTop (mkF m 1 #[.val (.ref a1), .val (.int q)] [(.ref a1)])) _
    exact kQ
  show OwnDone p e below _ (T.setTop (mkF m 1 #[.val (.ref a1), .val (.int q)] [(.ref a1)]))
  refine own_getF C P (host := "") (Or.inl (hw _ (List.mem_of_getElem? (i := 9) rfl))) Via.refl F1 d1_1 (fun T1 P1 => ?_)
  show OwnDone p e below _ (T1.setTop (mkF m 4 #[.val (.ref a1), .val (.int q)] [(.int (1 : Int32))]))
  refine OwnDone.go (A := (T1.setTop (mkF m 7 #[.val (.ref a1), .val (.int q)] []))) (fun tQ kQ => XS.ifNo P1.here hx rfl (hb hby d1_4) rfl (XT.i0_eq_f (by decide)) kQ) ?_
  show OwnDone p e below _ (T1.setTop (mkF m 7 #[.val (.ref a1), .val (.int q)] []))
  refine OwnDone.go (A := (T1.setTop (mkF m 10 #[.val (.ref a1), .val (.int q)] [(.int (21 : Int32)), (.int q)]))) (fun tQ kQ => ?_) ?_
  · refine XS.iloadN P1.here hx rfl (hb hby d1_7) rfl ?_
    show Steps p.tables e below (T1.setTop (mkF m 8 #[.val (.ref a1), .val (.int q)] [(.int q)])) _
    refine XS.bipush P1.here hx rfl (hb hby d1_8) ?_
    show Steps p.tables e below (T1.setTop (mkF m 10 #[.val (.ref a1), .val (.int q)] [(.int (21 : Int32)), (.int q)])) _
    exact kQ
  show OwnDone p e below _ (T1.setTop (mkF m 10 #[.val (.ref a1), .val (.int q)] [(.int (21 : Int32)), (.int q)]))
  by_cases hc10 : q = (21 : Int32)
  · refine OwnDone.go (A := (T1.setTop (mkF m 19 #[.val (.ref a1), .val (.int q)] []))) (fun tQ kQ => XS.icmpYes P1.here hx rfl (pc0 := 10) (pc' := 19) rfl (hb hby d1_10) rfl (XT.ii_eq_t hc10) (by decide) (by decide) kQ) ?_
    show OwnDone p e below _ (T1.setTop (mkF m 19 #[.val (.ref a1), .val (.int q)] []))
    refine OwnDone.go (A := (T1.setTop (mkF m 38 #[.val (.ref a1), .val (.int q)] [(.int (1 : Int32))]))) (fun tQ kQ => ?_) ?_
    · refine XS.iconst P1.here hx rfl (hb hby d1_19) ?_
      show Steps p.tables e below (T1.setTop (mkF m 20 #[.val (.ref a1), .val (.int q)] [(.int (1 : Int32))])) _
      refine XS.goto P1.here hx rfl (pc0 := 20) (pc' := 38) rfl (hb hby d1_20) (by decide) (by decide) ?_
      show Steps p.tables e below (T1.setTop (mkF m 38 #[.val (.ref a1), .val (.int q)] [(.int (1 : Int32))])) _
      exact kQ
    show OwnDone p e below _ (T1.setTop (mkF m 38 #[.val (.ref a1), .val (.int q)] [(.int (1 : Int32))]))
    refine own_retN C P1 (by simp) (z' := (1 : Int32)) (by decide) d1_38 (by decide) (by decide) ?_
    refine ⟨?_, rfl⟩
    simp only [*, if_true, if_false, true_or, or_true, or_self, or_false, false_or]
  · refine OwnDone.go (A := (T1.setTop (mkF m 13 #[.val (.ref a1), .val (.int q)] []))) (fun tQ kQ => XS.icmpNo P1.here hx rfl (hb hby d1_10) rfl (XT.ii_eq_f hc10) kQ) ?_
    show OwnDone p e below _ (T1.setTop (mkF m 13 #[.val (.ref a1), .val (.int q)] []))
    refine OwnDone.go (A := (T1.setTop (mkF m 16 #[.val (.ref a1), .val (.int q)] [(.int (37 : Int32)), (.int q)]))) (fun tQ kQ => ?_) ?_
    · refine XS.iloadN P1.here hx rfl (hb hby d1_13) rfl ?_
      show Steps p.tables e below (T1.setTop (mkF m 14 #[.val (.ref a1), .val (.int q)] [(.int q)])) _
      refine XS.bipush P1.here hx rfl (hb hby d1_14) ?_
      show Steps p.tables e below (T1.setTop (mkF m 16 #[.val (.ref a1), .val (.int q)] [(.int (37 : Int32)), (.int q)])) _
      exact kQ
    show OwnDone p e below _ (T1.setTop (mkF m 16 #[.val (.ref a1), .val (.int q)] [(.int (37 : Int32)), (.int q)]))
    by_cases hc16 : q = (37 : Int32)
    · refine OwnDone.go (A := (T1.setTop (mkF m 19 #[.val (.ref a1), .val (.int q)] []))) (fun tQ kQ => XS.icmpNo P1.here hx rfl (hb hby d1_16) rfl (XT.ii_ne_f hc16) kQ) ?_
      show OwnDone p e below _ (T1.setTop (mkF m 19 #[.val (.ref a1), .val (.int q)] []))
      refine OwnDone.go (A := (T1.setTop (mkF m 38 #[.val (.ref a1), .val (.int q)] [(.int (1 : Int32))]))) (fun tQ kQ => ?_) ?_
      · refine XS.iconst P1.here hx rfl (hb hby d1_19) ?_
        show Steps p.tables e below (T1.setTop (mkF m 20 #[.val (.ref a1), .val (.int q)] [(.int (1 : Int32))])) _
        refine XS.goto P1.here hx rfl (pc0 := 20) (pc' := 38) rfl (hb hby d1_20) (by decide) (by decide) ?_
        show Steps p.tables e below (T1.setTop (mkF m 38 #[.val (.ref a1), .val (.int q)] [(.int (1 : Int32))])) _
        exact kQ
      show OwnDone p e below _ (T1.setTop (mkF m 38 #[.val (.ref a1), .val (.int q)] [(.int (1 : Int32))]))
      refine own_retN C P1 (by simp) (z' := (1 : Int32)) (by decide) d1_38 (by decide) (by decide) ?_
      refine ⟨?_, rfl⟩
      simp only [*, if_true, if_false, true_or, or_true, or_self, or_false, false_or]
    · refine OwnDone.go (A := (T1.setTop (mkF m 23 #[.val (.ref a1), .val (.int q)] []))) (fun tQ kQ => XS.icmpYes P1.here hx rfl (pc0 := 16) (pc' := 23) rfl (hb hby d1_16) rfl (XT.ii_ne_t hc16) (by decide) (by decide) kQ) ?_
      show OwnDone p e below _ (T1.setTop (mkF m 23 #[.val (.ref a1), .val (.int q)] []))
      refine OwnDone.go (A := (T1.setTop (mkF m 38 #[.val (.ref a1), .val (.int q)] [(.int (0 : Int32))]))) (fun tQ kQ => ?_) ?_
      · refine XS.iconst P1.here hx rfl (hb hby d1_23) ?_
        show Steps p.tables e below (T1.setTop (mkF m 24 #[.val (.ref a1), .val (.int q)] [(.int (0 : Int32))])) _
        refine XS.goto P1.here hx rfl (pc0 := 24) (pc' := 38) rfl (hb hby d1_24) (by decide) (by decide) ?_
        show Steps p.tables e below (T1.setTop (mkF m 38 #[.val (.ref a1), .val (.int q)] [(.int (0 : Int32))])) _
        exact kQ
      show OwnDone p e below _ (T1.setTop (mkF m 38 #[.val (.ref a1), .val (.int q)] [(.int (0 : Int32))]))
      refine own_retN C P1 (by simp) (z' := (0 : Int32)) (by decide) d1_38 (by decide) (by decide) ?_
      refine ⟨?_, rfl⟩
      simp only [*, if_true, if_false, true_or, or_true, or_self, or_false, false_or]
theorem d2_0 : decode prog_132_method_8_code 0 = .ok (.aload_n 0, 1) := by decide +kernel
theorem d2_1 : decode prog_132_method_8_code 1 = .ok (.getfield 39, 3) := by decide +kernel
theorem d2_4 : decode prog_132_method_8_code 4 = .ok (.ifCond .eq 23, 3) := by decide +kernel
theorem d2_27 : decode prog_132_method_8_code 27 = .ok (.iload_n 1, 1) := by decide +kernel
theorem d2_28 : decode prog_132_method_8_code 28 = .ok (.bipush 10, 2) := by decide +kernel
theorem d2_30 : decode prog_132_method_8_code 30 = .ok (.if_icmp .ne 7, 3) := by decide +kernel
theorem d2_33 : decode prog_132_method_8_code 33 = .ok (.iconst 1, 1) := by decide +kernel
theorem d2_34 : decode prog_132_method_8_code 34 = .ok (.goto 4, 3) := by decide +kernel
theorem d2_37 : decode prog_132_method_8_code 37 = .ok (.iconst 0, 1) := by decide +kernel
theorem d2_38 : decode prog_132_method_8_code 38 = .ok (.ireturn, 1) := by decide +kernel
theorem pn2 : plainName "com/example/glasshouse/glasshouse/model/CodePage" = true := by first | (simp [plainName, overriddenIn]; done) | decide +kernel
theorem ef2 (m : MethodId) (a1 : Addr) (q : Int32)  : entryFrame m #[(.ref a1), (.int q)] 2 = mkF m 0 #[.val (.ref a1), .val (.int q)] [] := by first | (simp [entryFrame, mkF, argsToLocals, Value.category]; done) | rfl
set_option maxRecDepth 65536 in
set_option maxHeartbeats 40000000 in
theorem rm2 (l : Launch) (Z : State) (a0 : Array Value) (hw : ∀ d ∈ tables_1, d.before a0 Z = true) (a1 : Addr) (q : Int32)  (h0 : Heap) (hE : Ext Z.heap h0)  (F1 : Fld Z h0 a1 "com/example/glasshouse/glasshouse/model/CodePage" "ebcdic" "Z" (.int 0)) :
    OwnMeets l (⟨"com/example/glasshouse/glasshouse/model/CodePage", "isLineEnd", "(B)Z"⟩ : MethodName) prog_132_method_8_code 2 (some .boolean) ({ frames := 0, cells := 0, slots := 0, locals := 0 } : Room) Z [] #[(.ref a1), (.int q)] h0 (fun v h => v = some (.int (if q = 10 then 1 else 0)) ∧ h0 = h) := by
  refine OwnMeets.of (plainFor_of_name pn2) hE all0 ?_
  intro p e s m below meth c T C P
  have hx := C.1
  have hby := C.2.2.2.2.1
  rw [show entryFrame m #[(.ref a1), (.int q)] 2 = _ from ef2 m a1 q]
  show OwnDone p e below _ (T.setTop (mkF m 0 #[.val (.ref a1), .val (.int q)] []))
  refine OwnDone.go (A := (T.setTop (mkF m 1 #[.val (.ref a1), .val (.int q)] [(.ref a1)]))) (fun tQ kQ => ?_) ?_
  · refine XS.aloadN P.here hx rfl (hb hby d2_0) rfl rfl ?_
    show Steps p.tables e below (T.setTop (mkF m 1 #[.val (.ref a1), .val (.int q)] [(.ref a1)])) _
    exact kQ
  show OwnDone p e below _ (T.setTop (mkF m 1 #[.val (.ref a1), .val (.int q)] [(.ref a1)]))
  refine own_getF C P (host := "") (Or.inl (hw _ (List.mem_of_getElem? (i := 9) rfl))) Via.refl F1 d2_1 (fun T1 P1 => ?_)
  show OwnDone p e below _ (T1.setTop (mkF m 4 #[.val (.ref a1), .val (.int q)] [(.int (0 : Int32))]))
  refine OwnDone.go (A := (T1.setTop (mkF m 27 #[.val (.ref a1), .val (.int q)] []))) (fun tQ kQ => XS.ifYes P1.here hx rfl (pc0 := 4) (pc' := 27) rfl (hb hby d2_4) rfl (XT.i0_eq_t (by decide)) (by decide) (by decide) kQ) ?_
  show OwnDone p e below _ (T1.setTop (mkF m 27 #[.val (.ref a1), .val (.int q)] []))
  refine OwnDone.go (A := (T1.setTop (mkF m 30 #[.val (.ref a1), .val (.int q)] [(.int (10 : Int32)), (.int q)]))) (fun tQ kQ => ?_) ?_
  · refine XS.iloadN P1.here hx rfl (hb hby d2_27) rfl ?_
    show Steps p.tables e below (T1.setTop (mkF m 28 #[.val (.ref a1), .val (.int q)] [(.int q)])) _
    refine XS.bipush P1.here hx rfl (hb hby d2_28) ?_
    show Steps p.tables e below (T1.setTop (mkF m 30 #[.val (.ref a1), .val (.int q)] [(.int (10 : Int32)), (.int q)])) _
    exact kQ
  show OwnDone p e below _ (T1.setTop (mkF m 30 #[.val (.ref a1), .val (.int q)] [(.int (10 : Int32)), (.int q)]))
  by_cases hc30 : q = (10 : Int32)
  · refine OwnDone.go (A := (T1.setTop (mkF m 33 #[.val (.ref a1), .val (.int q)] []))) (fun tQ kQ => XS.icmpNo P1.here hx rfl (hb hby d2_30) rfl (XT.ii_ne_f hc30) kQ) ?_
    show OwnDone p e below _ (T1.setTop (mkF m 33 #[.val (.ref a1), .val (.int q)] []))
    refine OwnDone.go (A := (T1.setTop (mkF m 38 #[.val (.ref a1), .val (.int q)] [(.int (1 : Int32))]))) (fun tQ kQ => ?_) ?_
    · refine XS.iconst P1.here hx rfl (hb hby d2_33) ?_
      show Steps p.tables e below (T1.setTop (mkF m 34 #[.val (.ref a1), .val (.int q)] [(.int (1 : Int32))])) _
      refine XS.goto P1.here hx rfl (pc0 := 34) (pc' := 38) rfl (hb hby d2_34) (by decide) (by decide) ?_
      show Steps p.tables e below (T1.setTop (mkF m 38 #[.val (.ref a1), .val (.int q)] [(.int (1 : Int32))])) _
      exact kQ
    show OwnDone p e below _ (T1.setTop (mkF m 38 #[.val (.ref a1), .val (.int q)] [(.int (1 : Int32))]))
    refine own_retN C P1 (by simp) (z' := (1 : Int32)) (by decide) d2_38 (by decide) (by decide) ?_
    refine ⟨?_, rfl⟩
    simp only [*, if_true, if_false, true_or, or_true, or_self, or_false, false_or]
  · refine OwnDone.go (A := (T1.setTop (mkF m 37 #[.val (.ref a1), .val (.int q)] []))) (fun tQ kQ => XS.icmpYes P1.here hx rfl (pc0 := 30) (pc' := 37) rfl (hb hby d2_30) rfl (XT.ii_ne_t hc30) (by decide) (by decide) kQ) ?_
    show OwnDone p e below _ (T1.setTop (mkF m 37 #[.val (.ref a1), .val (.int q)] []))
    refine OwnDone.go (A := (T1.setTop (mkF m 38 #[.val (.ref a1), .val (.int q)] [(.int (0 : Int32))]))) (fun tQ kQ => ?_) ?_
    · refine XS.iconst P1.here hx rfl (hb hby d2_37) ?_
      show Steps p.tables e below (T1.setTop (mkF m 38 #[.val (.ref a1), .val (.int q)] [(.int (0 : Int32))])) _
      exact kQ
    show OwnDone p e below _ (T1.setTop (mkF m 38 #[.val (.ref a1), .val (.int q)] [(.int (0 : Int32))]))
    refine own_retN C P1 (by simp) (z' := (0 : Int32)) (by decide) d2_38 (by decide) (by decide) ?_
    refine ⟨?_, rfl⟩
    simp only [*, if_true, if_false, true_or, or_true, or_self, or_false, false_or]
theorem pn0 : plainName "com/example/glasshouse/glasshouse/model/CodePageIsLineEndPinLaw" = true := by first | (simp [plainName, overriddenIn]; done) | decide +kernel
theorem ef0 (m : MethodId) (p1 : Int32) (p2 : Int32)  : entryFrame m #[(.int p1), (.int p2)] maxLocals = mkF m 0 #[.val (.int p1), .val (.int p2), .unset, .unset, .unset, .unset, .unset] [] := by first | (simp [entryFrame, mkF, argsToLocals, Value.category, maxLocals]; done) | rfl
set_option maxRecDepth 65536 in
set_option maxHeartbeats 40000000 in
theorem rm0 (l : Launch) (Z : State) (a0 : Array Value) (hw : ∀ d ∈ tables_1, d.before a0 Z = true) (p1 : Int32) (p2 : Int32)  (h0 : Heap) (hE : Ext Z.heap h0)  (b0 b1 b2 : Addr) (S0 : Sta Z Z.heap "com/example/glasshouse/glasshouse/model/CodePage" "IBM037" "Lcom/example/glasshouse/glasshouse/model/CodePage;" (.ref b0)) (E0 : Exa Z h0 b0 "com/example/glasshouse/glasshouse/model/CodePage") (F0 : Fld Z h0 b0 "com/example/glasshouse/glasshouse/model/CodePage" "ebcdic" "Z" (.int 1)) (S1 : Sta Z Z.heap "com/example/glasshouse/glasshouse/model/CodePage" "IBM1047" "Lcom/example/glasshouse/glasshouse/model/CodePage;" (.ref b1)) (E1 : Exa Z h0 b1 "com/example/glasshouse/glasshouse/model/CodePage") (F1 : Fld Z h0 b1 "com/example/glasshouse/glasshouse/model/CodePage" "ebcdic" "Z" (.int 1)) (S2 : Sta Z Z.heap "com/example/glasshouse/glasshouse/model/CodePage" "ASCII" "Lcom/example/glasshouse/glasshouse/model/CodePage;" (.ref b2)) (E2 : Exa Z h0 b2 "com/example/glasshouse/glasshouse/model/CodePage") (F2 : Fld Z h0 b2 "com/example/glasshouse/glasshouse/model/CodePage" "ebcdic" "Z" (.int 0)) :
    OwnMeets l x code maxLocals ret room_1 Z [] #[(.int p1), (.int p2)] h0 (fun v h => v = some (.int 1)) := by
  refine OwnMeets.of (plainFor_of_name pn0) hE all0 ?_
  intro p e s m below meth c T C P
  have hx := C.1
  have hby := C.2.2.2.2.1
  rw [show entryFrame m #[(.int p1), (.int p2)] maxLocals = _ from ef0 m p1 p2]
  show OwnDone p e below _ (T.setTop (mkF m 0 #[.val (.int p1), .val (.int p2), .unset, .unset, .unset, .unset, .unset] []))
  refine OwnDone.go (A := (T.setTop (mkF m 7 #[.val (.int p1), .val (.int p2), .val (.int ((p1 &&& (2147483647 : Int32)) % (3 : Int32))), .unset, .unset, .unset, .unset] []))) (fun tQ kQ => ?_) ?_
  · refine XS.iloadN P.here hx rfl (hb hby at_0) rfl ?_
    show Steps p.tables e below (T.setTop (mkF m 1 #[.val (.int p1), .val (.int p2), .unset, .unset, .unset, .unset, .unset] [(.int p1)])) _
    refine own_ldc C P (hw _ (List.mem_of_getElem? (i := 0) rfl)) at_1 ?_
    show Steps p.tables e below (T.setTop (mkF m 3 #[.val (.int p1), .val (.int p2), .unset, .unset, .unset, .unset, .unset] [(.int (2147483647 : Int32)), (.int p1)])) _
    refine XS.iand P.here hx rfl (hb hby at_3) rfl ?_
    show Steps p.tables e below (T.setTop (mkF m 4 #[.val (.int p1), .val (.int p2), .unset, .unset, .unset, .unset, .unset] [(.int (p1 &&& (2147483647 : Int32)))])) _
    refine XS.iconst P.here hx rfl (hb hby at_4) ?_
    show Steps p.tables e below (T.setTop (mkF m 5 #[.val (.int p1), .val (.int p2), .unset, .unset, .unset, .unset, .unset] [(.int (3 : Int32)), (.int (p1 &&& (2147483647 : Int32)))])) _
    refine own_irem C P (by decide) at_5 ?_
    show Steps p.tables e below (T.setTop (mkF m 6 #[.val (.int p1), .val (.int p2), .unset, .unset, .unset, .unset, .unset] [(.int ((p1 &&& (2147483647 : Int32)) % (3 : Int32)))])) _
    refine XS.istoreN P.here hx rfl (hb hby at_6) rfl (l' := #[.val (.int p1), .val (.int p2), .val (.int ((p1 &&& (2147483647 : Int32)) % (3 : Int32))), .unset, .unset, .unset, .unset]) rfl ?_
    show Steps p.tables e below (T.setTop (mkF m 7 #[.val (.int p1), .val (.int p2), .val (.int ((p1 &&& (2147483647 : Int32)) % (3 : Int32))), .unset, .unset, .unset, .unset] [])) _
    exact kQ
  show OwnDone p e below _ (T.setTop (mkF m 7 #[.val (.int p1), .val (.int p2), .val (.int ((p1 &&& (2147483647 : Int32)) % (3 : Int32))), .unset, .unset, .unset, .unset] []))
  rcases own_three p1 with hk | hk | hk
  · rw [hk]
    show OwnDone p e below _ (T.setTop (mkF m 7 #[.val (.int p1), .val (.int p2), .val (.int (0 : Int32)), .unset, .unset, .unset, .unset] []))
    refine OwnDone.go (A := (T.setTop (mkF m 8 #[.val (.int p1), .val (.int p2), .val (.int (0 : Int32)), .unset, .unset, .unset, .unset] [(.int (0 : Int32))]))) (fun tQ kQ => ?_) ?_
    · refine XS.iloadN P.here hx rfl (hb hby at_7) rfl ?_
      show Steps p.tables e below (T.setTop (mkF m 8 #[.val (.int p1), .val (.int p2), .val (.int (0 : Int32)), .unset, .unset, .unset, .unset] [(.int (0 : Int32))])) _
      exact kQ
    show OwnDone p e below _ (T.setTop (mkF m 8 #[.val (.int p1), .val (.int p2), .val (.int (0 : Int32)), .unset, .unset, .unset, .unset] [(.int (0 : Int32))]))
    refine OwnDone.go (A := (T.setTop (mkF m 11 #[.val (.int p1), .val (.int p2), .val (.int (0 : Int32)), .unset, .unset, .unset, .unset] []))) (fun tQ kQ => XS.ifNo P.here hx rfl (hb hby at_8) rfl (XT.i0_ne_f (by decide)) kQ) ?_
    show OwnDone p e below _ (T.setTop (mkF m 11 #[.val (.int p1), .val (.int p2), .val (.int (0 : Int32)), .unset, .unset, .unset, .unset] []))
    refine own_getS C P (host := "") (Or.inl (hw _ (List.mem_of_getElem? (i := 1) rfl))) Via.refl S0 at_11 (fun T1 P1 => ?_)
    show OwnDone p e below _ (T1.setTop (mkF m 14 #[.val (.int p1), .val (.int p2), .val (.int (0 : Int32)), .unset, .unset, .unset, .unset] [(.ref b0)]))
    refine OwnDone.go (A := (T1.setTop (mkF m 47 #[.val (.int p1), .val (.int p2), .val (.int (0 : Int32)), .val (.ref b0), .val (.int (p2.toInt8.toInt32)), .val (.int (p2 &&& (255 : Int32))), .unset] [(.int (2 : Int32)), (.int (0 : Int32))]))) (fun tQ kQ => ?_) ?_
    · refine XS.astoreN P1.here hx rfl (hb hby at_14) rfl rfl (l' := #[.val (.int p1), .val (.int p2), .val (.int (0 : Int32)), .val (.ref b0), .unset, .unset, .unset]) rfl ?_
      show Steps p.tables e below (T1.setTop (mkF m 15 #[.val (.int p1), .val (.int p2), .val (.int (0 : Int32)), .val (.ref b0), .unset, .unset, .unset] [])) _
      refine XS.goto P1.here hx rfl (pc0 := 15) (pc' := 34) rfl (hb hby at_15) (by decide) (by decide) ?_
      show Steps p.tables e below (T1.setTop (mkF m 34 #[.val (.int p1), .val (.int p2), .val (.int (0 : Int32)), .val (.ref b0), .unset, .unset, .unset] [])) _
      refine XS.iloadN P1.here hx rfl (hb hby at_34) rfl ?_
      show Steps p.tables e below (T1.setTop (mkF m 35 #[.val (.int p1), .val (.int p2), .val (.int (0 : Int32)), .val (.ref b0), .unset, .unset, .unset] [(.int p2)])) _
      refine XT.i2b P1.here hx rfl (hb hby at_35) rfl ?_
      show Steps p.tables e below (T1.setTop (mkF m 36 #[.val (.int p1), .val (.int p2), .val (.int (0 : Int32)), .val (.ref b0), .unset, .unset, .unset] [(.int (p2.toInt8.toInt32))])) _
      refine XS.istore P1.here hx rfl (hb hby at_36) rfl (l' := #[.val (.int p1), .val (.int p2), .val (.int (0 : Int32)), .val (.ref b0), .val (.int (p2.toInt8.toInt32)), .unset, .unset]) rfl ?_
      show Steps p.tables e below (T1.setTop (mkF m 38 #[.val (.int p1), .val (.int p2), .val (.int (0 : Int32)), .val (.ref b0), .val (.int (p2.toInt8.toInt32)), .unset, .unset] [])) _
      refine XS.iloadN P1.here hx rfl (hb hby at_38) rfl ?_
      show Steps p.tables e below (T1.setTop (mkF m 39 #[.val (.int p1), .val (.int p2), .val (.int (0 : Int32)), .val (.ref b0), .val (.int (p2.toInt8.toInt32)), .unset, .unset] [(.int p2)])) _
      refine XS.sipush P1.here hx rfl (hb hby at_39) ?_
      show Steps p.tables e below (T1.setTop (mkF m 42 #[.val (.int p1), .val (.int p2), .val (.int (0 : Int32)), .val (.ref b0), .val (.int (p2.toInt8.toInt32)), .unset, .unset] [(.int (255 : Int32)), (.int p2)])) _
      refine XS.iand P1.here hx rfl (hb hby at_42) rfl ?_
      show Steps p.tables e below (T1.setTop (mkF m 43 #[.val (.int p1), .val (.int p2), .val (.int (0 : Int32)), .val (.ref b0), .val (.int (p2.toInt8.toInt32)), .unset, .unset] [(.int (p2 &&& (255 : Int32)))])) _
      refine XS.istore P1.here hx rfl (hb hby at_43) rfl (l' := #[.val (.int p1), .val (.int p2), .val (.int (0 : Int32)), .val (.ref b0), .val (.int (p2.toInt8.toInt32)), .val (.int (p2 &&& (255 : Int32))), .unset]) rfl ?_
      show Steps p.tables e below (T1.setTop (mkF m 45 #[.val (.int p1), .val (.int p2), .val (.int (0 : Int32)), .val (.ref b0), .val (.int (p2.toInt8.toInt32)), .val (.int (p2 &&& (255 : Int32))), .unset] [])) _
      refine XS.iloadN P1.here hx rfl (hb hby at_45) rfl ?_
      show Steps p.tables e below (T1.setTop (mkF m 46 #[.val (.int p1), .val (.int p2), .val (.int (0 : Int32)), .val (.ref b0), .val (.int (p2.toInt8.toInt32)), .val (.int (p2 &&& (255 : Int32))), .unset] [(.int (0 : Int32))])) _
      refine XS.iconst P1.here hx rfl (hb hby at_46) ?_
      show Steps p.tables e below (T1.setTop (mkF m 47 #[.val (.int p1), .val (.int p2), .val (.int (0 : Int32)), .val (.ref b0), .val (.int (p2.toInt8.toInt32)), .val (.int (p2 &&& (255 : Int32))), .unset] [(.int (2 : Int32)), (.int (0 : Int32))])) _
      exact kQ
    show OwnDone p e below _ (T1.setTop (mkF m 47 #[.val (.int p1), .val (.int p2), .val (.int (0 : Int32)), .val (.ref b0), .val (.int (p2.toInt8.toInt32)), .val (.int (p2 &&& (255 : Int32))), .unset] [(.int (2 : Int32)), (.int (0 : Int32))]))
    refine OwnDone.go (A := (T1.setTop (mkF m 67 #[.val (.int p1), .val (.int p2), .val (.int (0 : Int32)), .val (.ref b0), .val (.int (p2.toInt8.toInt32)), .val (.int (p2 &&& (255 : Int32))), .unset] []))) (fun tQ kQ => XS.icmpYes P1.here hx rfl (pc0 := 47) (pc' := 67) rfl (hb hby at_47) rfl (XT.ii_ne_t (by decide)) (by decide) (by decide) kQ) ?_
    show OwnDone p e below _ (T1.setTop (mkF m 67 #[.val (.int p1), .val (.int p2), .val (.int (0 : Int32)), .val (.ref b0), .val (.int (p2.toInt8.toInt32)), .val (.int (p2 &&& (255 : Int32))), .unset] []))
    refine OwnDone.go (A := (T1.setTop (mkF m 71 #[.val (.int p1), .val (.int p2), .val (.int (0 : Int32)), .val (.ref b0), .val (.int (p2.toInt8.toInt32)), .val (.int (p2 &&& (255 : Int32))), .unset] [(.int (21 : Int32)), (.int (p2 &&& (255 : Int32)))]))) (fun tQ kQ => ?_) ?_
    · refine XS.iload P1.here hx rfl (hb hby at_67) rfl ?_
      show Steps p.tables e below (T1.setTop (mkF m 69 #[.val (.int p1), .val (.int p2), .val (.int (0 : Int32)), .val (.ref b0), .val (.int (p2.toInt8.toInt32)), .val (.int (p2 &&& (255 : Int32))), .unset] [(.int (p2 &&& (255 : Int32)))])) _
      refine XS.bipush P1.here hx rfl (hb hby at_69) ?_
      show Steps p.tables e below (T1.setTop (mkF m 71 #[.val (.int p1), .val (.int p2), .val (.int (0 : Int32)), .val (.ref b0), .val (.int (p2.toInt8.toInt32)), .val (.int (p2 &&& (255 : Int32))), .unset] [(.int (21 : Int32)), (.int (p2 &&& (255 : Int32)))])) _
      exact kQ
    show OwnDone p e below _ (T1.setTop (mkF m 71 #[.val (.int p1), .val (.int p2), .val (.int (0 : Int32)), .val (.ref b0), .val (.int (p2.toInt8.toInt32)), .val (.int (p2 &&& (255 : Int32))), .unset] [(.int (21 : Int32)), (.int (p2 &&& (255 : Int32)))]))
    suffices K2 : OwnDone p e below _ (T1.setTop (mkF m 86 #[.val (.int p1), .val (.int p2), .val (.int (0 : Int32)), .val (.ref b0), .val (.int (p2.toInt8.toInt32)), .val (.int (p2 &&& (255 : Int32))), .unset] [(.int (if (p2 &&& (255 : Int32)) = 21 ∨ (p2 &&& (255 : Int32)) = 37 then (1 : Int32) else 0))])) from by
      by_cases hc71 : (p2 &&& (255 : Int32)) = (21 : Int32)
      · refine OwnDone.go (A := (T1.setTop (mkF m 81 #[.val (.int p1), .val (.int p2), .val (.int (0 : Int32)), .val (.ref b0), .val (.int (p2.toInt8.toInt32)), .val (.int (p2 &&& (255 : Int32))), .unset] []))) (fun tQ kQ => XS.icmpYes P1.here hx rfl (pc0 := 71) (pc' := 81) rfl (hb hby at_71) rfl (XT.ii_eq_t hc71) (by decide) (by decide) kQ) ?_
        show OwnDone p e below _ (T1.setTop (mkF m 81 #[.val (.int p1), .val (.int p2), .val (.int (0 : Int32)), .val (.ref b0), .val (.int (p2.toInt8.toInt32)), .val (.int (p2 &&& (255 : Int32))), .unset] []))
        refine OwnDone.go (A := (T1.setTop (mkF m 86 #[.val (.int p1), .val (.int p2), .val (.int (0 : Int32)), .val (.ref b0), .val (.int (p2.toInt8.toInt32)), .val (.int (p2 &&& (255 : Int32))), .unset] [(.int (1 : Int32))]))) (fun tQ kQ => ?_) ?_
        · refine XS.iconst P1.here hx rfl (hb hby at_81) ?_
          show Steps p.tables e below (T1.setTop (mkF m 82 #[.val (.int p1), .val (.int p2), .val (.int (0 : Int32)), .val (.ref b0), .val (.int (p2.toInt8.toInt32)), .val (.int (p2 &&& (255 : Int32))), .unset] [(.int (1 : Int32))])) _
          refine XS.goto P1.here hx rfl (pc0 := 82) (pc' := 86) rfl (hb hby at_82) (by decide) (by decide) ?_
          show Steps p.tables e below (T1.setTop (mkF m 86 #[.val (.int p1), .val (.int p2), .val (.int (0 : Int32)), .val (.ref b0), .val (.int (p2.toInt8.toInt32)), .val (.int (p2 &&& (255 : Int32))), .unset] [(.int (1 : Int32))])) _
          exact kQ
        show OwnDone p e below _ (T1.setTop (mkF m 86 #[.val (.int p1), .val (.int p2), .val (.int (0 : Int32)), .val (.ref b0), .val (.int (p2.toInt8.toInt32)), .val (.int (p2 &&& (255 : Int32))), .unset] [(.int (1 : Int32))]))
        have q : ((.int (if (p2 &&& (255 : Int32)) = 21 ∨ (p2 &&& (255 : Int32)) = 37 then (1 : Int32) else 0)) : Value) = (.int (1 : Int32)) := by simp only [*, if_true, if_false, true_or, or_true, or_self]
        rw [q] at K2
        exact K2
      · refine OwnDone.go (A := (T1.setTop (mkF m 74 #[.val (.int p1), .val (.int p2), .val (.int (0 : Int32)), .val (.ref b0), .val (.int (p2.toInt8.toInt32)), .val (.int (p2 &&& (255 : Int32))), .unset] []))) (fun tQ kQ => XS.icmpNo P1.here hx rfl (hb hby at_71) rfl (XT.ii_eq_f hc71) kQ) ?_
        show OwnDone p e below _ (T1.setTop (mkF m 74 #[.val (.int p1), .val (.int p2), .val (.int (0 : Int32)), .val (.ref b0), .val (.int (p2.toInt8.toInt32)), .val (.int (p2 &&& (255 : Int32))), .unset] []))
        refine OwnDone.go (A := (T1.setTop (mkF m 78 #[.val (.int p1), .val (.int p2), .val (.int (0 : Int32)), .val (.ref b0), .val (.int (p2.toInt8.toInt32)), .val (.int (p2 &&& (255 : Int32))), .unset] [(.int (37 : Int32)), (.int (p2 &&& (255 : Int32)))]))) (fun tQ kQ => ?_) ?_
        · refine XS.iload P1.here hx rfl (hb hby at_74) rfl ?_
          show Steps p.tables e below (T1.setTop (mkF m 76 #[.val (.int p1), .val (.int p2), .val (.int (0 : Int32)), .val (.ref b0), .val (.int (p2.toInt8.toInt32)), .val (.int (p2 &&& (255 : Int32))), .unset] [(.int (p2 &&& (255 : Int32)))])) _
          refine XS.bipush P1.here hx rfl (hb hby at_76) ?_
          show Steps p.tables e below (T1.setTop (mkF m 78 #[.val (.int p1), .val (.int p2), .val (.int (0 : Int32)), .val (.ref b0), .val (.int (p2.toInt8.toInt32)), .val (.int (p2 &&& (255 : Int32))), .unset] [(.int (37 : Int32)), (.int (p2 &&& (255 : Int32)))])) _
          exact kQ
        show OwnDone p e below _ (T1.setTop (mkF m 78 #[.val (.int p1), .val (.int p2), .val (.int (0 : Int32)), .val (.ref b0), .val (.int (p2.toInt8.toInt32)), .val (.int (p2 &&& (255 : Int32))), .unset] [(.int (37 : Int32)), (.int (p2 &&& (255 : Int32)))]))
        by_cases hc78 : (p2 &&& (255 : Int32)) = (37 : Int32)
        · refine OwnDone.go (A := (T1.setTop (mkF m 81 #[.val (.int p1), .val (.int p2), .val (.int (0 : Int32)), .val (.ref b0), .val (.int (p2.toInt8.toInt32)), .val (.int (p2 &&& (255 : Int32))), .unset] []))) (fun tQ kQ => XS.icmpNo P1.here hx rfl (hb hby at_78) rfl (XT.ii_ne_f hc78) kQ) ?_
          show OwnDone p e below _ (T1.setTop (mkF m 81 #[.val (.int p1), .val (.int p2), .val (.int (0 : Int32)), .val (.ref b0), .val (.int (p2.toInt8.toInt32)), .val (.int (p2 &&& (255 : Int32))), .unset] []))
          refine OwnDone.go (A := (T1.setTop (mkF m 86 #[.val (.int p1), .val (.int p2), .val (.int (0 : Int32)), .val (.ref b0), .val (.int (p2.toInt8.toInt32)), .val (.int (p2 &&& (255 : Int32))), .unset] [(.int (1 : Int32))]))) (fun tQ kQ => ?_) ?_
          · refine XS.iconst P1.here hx rfl (hb hby at_81) ?_
            show Steps p.tables e below (T1.setTop (mkF m 82 #[.val (.int p1), .val (.int p2), .val (.int (0 : Int32)), .val (.ref b0), .val (.int (p2.toInt8.toInt32)), .val (.int (p2 &&& (255 : Int32))), .unset] [(.int (1 : Int32))])) _
            refine XS.goto P1.here hx rfl (pc0 := 82) (pc' := 86) rfl (hb hby at_82) (by decide) (by decide) ?_
            show Steps p.tables e below (T1.setTop (mkF m 86 #[.val (.int p1), .val (.int p2), .val (.int (0 : Int32)), .val (.ref b0), .val (.int (p2.toInt8.toInt32)), .val (.int (p2 &&& (255 : Int32))), .unset] [(.int (1 : Int32))])) _
            exact kQ
          show OwnDone p e below _ (T1.setTop (mkF m 86 #[.val (.int p1), .val (.int p2), .val (.int (0 : Int32)), .val (.ref b0), .val (.int (p2.toInt8.toInt32)), .val (.int (p2 &&& (255 : Int32))), .unset] [(.int (1 : Int32))]))
          have q : ((.int (if (p2 &&& (255 : Int32)) = 21 ∨ (p2 &&& (255 : Int32)) = 37 then (1 : Int32) else 0)) : Value) = (.int (1 : Int32)) := by simp only [*, if_true, if_false, true_or, or_true, or_self]
          rw [q] at K2
          exact K2
        · refine OwnDone.go (A := (T1.setTop (mkF m 85 #[.val (.int p1), .val (.int p2), .val (.int (0 : Int32)), .val (.ref b0), .val (.int (p2.toInt8.toInt32)), .val (.int (p2 &&& (255 : Int32))), .unset] []))) (fun tQ kQ => XS.icmpYes P1.here hx rfl (pc0 := 78) (pc' := 85) rfl (hb hby at_78) rfl (XT.ii_ne_t hc78) (by decide) (by decide) kQ) ?_
          show OwnDone p e below _ (T1.setTop (mkF m 85 #[.val (.int p1), .val (.int p2), .val (.int (0 : Int32)), .val (.ref b0), .val (.int (p2.toInt8.toInt32)), .val (.int (p2 &&& (255 : Int32))), .unset] []))
          refine OwnDone.go (A := (T1.setTop (mkF m 86 #[.val (.int p1), .val (.int p2), .val (.int (0 : Int32)), .val (.ref b0), .val (.int (p2.toInt8.toInt32)), .val (.int (p2 &&& (255 : Int32))), .unset] [(.int (0 : Int32))]))) (fun tQ kQ => ?_) ?_
          · refine XS.iconst P1.here hx rfl (hb hby at_85) ?_
            show Steps p.tables e below (T1.setTop (mkF m 86 #[.val (.int p1), .val (.int p2), .val (.int (0 : Int32)), .val (.ref b0), .val (.int (p2.toInt8.toInt32)), .val (.int (p2 &&& (255 : Int32))), .unset] [(.int (0 : Int32))])) _
            exact kQ
          show OwnDone p e below _ (T1.setTop (mkF m 86 #[.val (.int p1), .val (.int p2), .val (.int (0 : Int32)), .val (.ref b0), .val (.int (p2.toInt8.toInt32)), .val (.int (p2 &&& (255 : Int32))), .unset] [(.int (0 : Int32))]))
          have q : ((.int (if (p2 &&& (255 : Int32)) = 21 ∨ (p2 &&& (255 : Int32)) = 37 then (1 : Int32) else 0)) : Value) = (.int (0 : Int32)) := by simp only [*, if_true, if_false, true_or, or_true, or_self]
          rw [q] at K2
          exact K2
    show OwnDone p e below _ (T1.setTop (mkF m 86 #[.val (.int p1), .val (.int p2), .val (.int (0 : Int32)), .val (.ref b0), .val (.int (p2.toInt8.toInt32)), .val (.int (p2 &&& (255 : Int32))), .unset] [(.int (if (p2 &&& (255 : Int32)) = 21 ∨ (p2 &&& (255 : Int32)) = 37 then (1 : Int32) else 0))]))
    refine OwnDone.go (A := (T1.setTop (mkF m 91 #[.val (.int p1), .val (.int p2), .val (.int (0 : Int32)), .val (.ref b0), .val (.int (p2.toInt8.toInt32)), .val (.int (p2 &&& (255 : Int32))), .val (.int (if (p2 &&& (255 : Int32)) = 21 ∨ (p2 &&& (255 : Int32)) = 37 then (1 : Int32) else 0))] [(.int (p2.toInt8.toInt32)), (.ref b0)]))) (fun tQ kQ => ?_) ?_
    · refine XS.istore P1.here hx rfl (hb hby at_86) rfl (l' := #[.val (.int p1), .val (.int p2), .val (.int (0 : Int32)), .val (.ref b0), .val (.int (p2.toInt8.toInt32)), .val (.int (p2 &&& (255 : Int32))), .val (.int (if (p2 &&& (255 : Int32)) = 21 ∨ (p2 &&& (255 : Int32)) = 37 then (1 : Int32) else 0))]) rfl ?_
      show Steps p.tables e below (T1.setTop (mkF m 88 #[.val (.int p1), .val (.int p2), .val (.int (0 : Int32)), .val (.ref b0), .val (.int (p2.toInt8.toInt32)), .val (.int (p2 &&& (255 : Int32))), .val (.int (if (p2 &&& (255 : Int32)) = 21 ∨ (p2 &&& (255 : Int32)) = 37 then (1 : Int32) else 0))] [])) _
      refine XS.aloadN P1.here hx rfl (hb hby at_88) rfl rfl ?_
      show Steps p.tables e below (T1.setTop (mkF m 89 #[.val (.int p1), .val (.int p2), .val (.int (0 : Int32)), .val (.ref b0), .val (.int (p2.toInt8.toInt32)), .val (.int (p2 &&& (255 : Int32))), .val (.int (if (p2 &&& (255 : Int32)) = 21 ∨ (p2 &&& (255 : Int32)) = 37 then (1 : Int32) else 0))] [(.ref b0)])) _
      refine XS.iload P1.here hx rfl (hb hby at_89) rfl ?_
      show Steps p.tables e below (T1.setTop (mkF m 91 #[.val (.int p1), .val (.int p2), .val (.int (0 : Int32)), .val (.ref b0), .val (.int (p2.toInt8.toInt32)), .val (.int (p2 &&& (255 : Int32))), .val (.int (if (p2 &&& (255 : Int32)) = 21 ∨ (p2 &&& (255 : Int32)) = 37 then (1 : Int32) else 0))] [(.int (p2.toInt8.toInt32)), (.ref b0)])) _
      exact kQ
    show OwnDone p e below _ (T1.setTop (mkF m 91 #[.val (.int p1), .val (.int p2), .val (.int (0 : Int32)), .val (.ref b0), .val (.int (p2.toInt8.toInt32)), .val (.int (p2 &&& (255 : Int32))), .val (.int (if (p2 &&& (255 : Int32)) = 21 ∨ (p2 &&& (255 : Int32)) = 37 then (1 : Int32) else 0))] [(.int (p2.toInt8.toInt32)), (.ref b0)]))
    refine own_callV (y := (⟨"com/example/glasshouse/glasshouse/model/CodePage", "isLineEnd", "(B)Z"⟩ : MethodName)) (z := (⟨"com/example/glasshouse/glasshouse/model/CodePage", "isLineEnd", "(B)Z"⟩ : MethodName)) (CC := "com/example/glasshouse/glasshouse/model/CodePage") C P1 E0 (hw _ (List.mem_of_getElem? (i := 4) rfl)) (hw _ (List.mem_of_getElem? (i := 5) rfl)) (hw _ (List.mem_of_getElem? (i := 7) rfl)) (hw _ (List.mem_of_getElem? (i := 7) rfl)) (hw _ (List.mem_of_getElem? (i := 6) rfl)) (hw _ (List.mem_of_getElem? (i := 2) rfl)) (hw _ (List.mem_of_getElem? (i := 8) rfl)) (by decide) (rm1 l Z a0 hw b0 (p2.toInt8.toInt32) h0 hE F0) (as := [(.int (p2.toInt8.toInt32))]) (rest := []) pd_0 rfl rfl (wd := 0) rfl rfl at_91 all0 (by decide) (by decide) (by decide) (by decide) (fun T3 h3 v3 P3 K3 hQ3 => ?_)
    obtain ⟨rfl, rfl⟩ := hQ3
    show OwnDone p e below _ (T3.setTop (mkF m 94 #[.val (.int p1), .val (.int p2), .val (.int (0 : Int32)), .val (.ref b0), .val (.int (p2.toInt8.toInt32)), .val (.int (p2 &&& (255 : Int32))), .val (.int (if (p2 &&& (255 : Int32)) = 21 ∨ (p2 &&& (255 : Int32)) = 37 then (1 : Int32) else 0))] [(.int (if (p2.toInt8.toInt32) = 21 ∨ (p2.toInt8.toInt32) = 37 then (1 : Int32) else 0))]))
    refine OwnDone.go (A := (T3.setTop (mkF m 96 #[.val (.int p1), .val (.int p2), .val (.int (0 : Int32)), .val (.ref b0), .val (.int (p2.toInt8.toInt32)), .val (.int (p2 &&& (255 : Int32))), .val (.int (if (p2 &&& (255 : Int32)) = 21 ∨ (p2 &&& (255 : Int32)) = 37 then (1 : Int32) else 0))] [(.int (if (p2 &&& (255 : Int32)) = 21 ∨ (p2 &&& (255 : Int32)) = 37 then (1 : Int32) else 0)), (.int (if (p2.toInt8.toInt32) = 21 ∨ (p2.toInt8.toInt32) = 37 then (1 : Int32) else 0))]))) (fun tQ kQ => ?_) ?_
    · refine XS.iload P3.here hx rfl (hb hby at_94) rfl ?_
      show Steps p.tables e below (T3.setTop (mkF m 96 #[.val (.int p1), .val (.int p2), .val (.int (0 : Int32)), .val (.ref b0), .val (.int (p2.toInt8.toInt32)), .val (.int (p2 &&& (255 : Int32))), .val (.int (if (p2 &&& (255 : Int32)) = 21 ∨ (p2 &&& (255 : Int32)) = 37 then (1 : Int32) else 0))] [(.int (if (p2 &&& (255 : Int32)) = 21 ∨ (p2 &&& (255 : Int32)) = 37 then (1 : Int32) else 0)), (.int (if (p2.toInt8.toInt32) = 21 ∨ (p2.toInt8.toInt32) = 37 then (1 : Int32) else 0))])) _
      exact kQ
    show OwnDone p e below _ (T3.setTop (mkF m 96 #[.val (.int p1), .val (.int p2), .val (.int (0 : Int32)), .val (.ref b0), .val (.int (p2.toInt8.toInt32)), .val (.int (p2 &&& (255 : Int32))), .val (.int (if (p2 &&& (255 : Int32)) = 21 ∨ (p2 &&& (255 : Int32)) = 37 then (1 : Int32) else 0))] [(.int (if (p2 &&& (255 : Int32)) = 21 ∨ (p2 &&& (255 : Int32)) = 37 then (1 : Int32) else 0)), (.int (if (p2.toInt8.toInt32) = 21 ∨ (p2.toInt8.toInt32) = 37 then (1 : Int32) else 0))]))
    refine OwnDone.go (A := (T3.setTop (mkF m 99 #[.val (.int p1), .val (.int p2), .val (.int (0 : Int32)), .val (.ref b0), .val (.int (p2.toInt8.toInt32)), .val (.int (p2 &&& (255 : Int32))), .val (.int (if (p2 &&& (255 : Int32)) = 21 ∨ (p2 &&& (255 : Int32)) = 37 then (1 : Int32) else 0))] []))) (fun tQ kQ => XS.icmpNo P3.here hx rfl (hb hby at_96) rfl (XT.ii_ne_f (own_ebc p2)) kQ) ?_
    show OwnDone p e below _ (T3.setTop (mkF m 99 #[.val (.int p1), .val (.int p2), .val (.int (0 : Int32)), .val (.ref b0), .val (.int (p2.toInt8.toInt32)), .val (.int (p2 &&& (255 : Int32))), .val (.int (if (p2 &&& (255 : Int32)) = 21 ∨ (p2 &&& (255 : Int32)) = 37 then (1 : Int32) else 0))] []))
    refine OwnDone.go (A := (T3.setTop (mkF m 104 #[.val (.int p1), .val (.int p2), .val (.int (0 : Int32)), .val (.ref b0), .val (.int (p2.toInt8.toInt32)), .val (.int (p2 &&& (255 : Int32))), .val (.int (if (p2 &&& (255 : Int32)) = 21 ∨ (p2 &&& (255 : Int32)) = 37 then (1 : Int32) else 0))] [(.int (1 : Int32))]))) (fun tQ kQ => ?_) ?_
    · refine XS.iconst P3.here hx rfl (hb hby at_99) ?_
      show Steps p.tables e below (T3.setTop (mkF m 100 #[.val (.int p1), .val (.int p2), .val (.int (0 : Int32)), .val (.ref b0), .val (.int (p2.toInt8.toInt32)), .val (.int (p2 &&& (255 : Int32))), .val (.int (if (p2 &&& (255 : Int32)) = 21 ∨ (p2 &&& (255 : Int32)) = 37 then (1 : Int32) else 0))] [(.int (1 : Int32))])) _
      refine XS.goto P3.here hx rfl (pc0 := 100) (pc' := 104) rfl (hb hby at_100) (by decide) (by decide) ?_
      show Steps p.tables e below (T3.setTop (mkF m 104 #[.val (.int p1), .val (.int p2), .val (.int (0 : Int32)), .val (.ref b0), .val (.int (p2.toInt8.toInt32)), .val (.int (p2 &&& (255 : Int32))), .val (.int (if (p2 &&& (255 : Int32)) = 21 ∨ (p2 &&& (255 : Int32)) = 37 then (1 : Int32) else 0))] [(.int (1 : Int32))])) _
      exact kQ
    show OwnDone p e below _ (T3.setTop (mkF m 104 #[.val (.int p1), .val (.int p2), .val (.int (0 : Int32)), .val (.ref b0), .val (.int (p2.toInt8.toInt32)), .val (.int (p2 &&& (255 : Int32))), .val (.int (if (p2 &&& (255 : Int32)) = 21 ∨ (p2 &&& (255 : Int32)) = 37 then (1 : Int32) else 0))] [(.int (1 : Int32))]))
    refine own_retN C P3 (by simp) (z' := (1 : Int32)) (by decide) at_104 (by decide) (by decide) rfl
  · rw [hk]
    show OwnDone p e below _ (T.setTop (mkF m 7 #[.val (.int p1), .val (.int p2), .val (.int (1 : Int32)), .unset, .unset, .unset, .unset] []))
    refine OwnDone.go (A := (T.setTop (mkF m 8 #[.val (.int p1), .val (.int p2), .val (.int (1 : Int32)), .unset, .unset, .unset, .unset] [(.int (1 : Int32))]))) (fun tQ kQ => ?_) ?_
    · refine XS.iloadN P.here hx rfl (hb hby at_7) rfl ?_
      show Steps p.tables e below (T.setTop (mkF m 8 #[.val (.int p1), .val (.int p2), .val (.int (1 : Int32)), .unset, .unset, .unset, .unset] [(.int (1 : Int32))])) _
      exact kQ
    show OwnDone p e below _ (T.setTop (mkF m 8 #[.val (.int p1), .val (.int p2), .val (.int (1 : Int32)), .unset, .unset, .unset, .unset] [(.int (1 : Int32))]))
    refine OwnDone.go (A := (T.setTop (mkF m 18 #[.val (.int p1), .val (.int p2), .val (.int (1 : Int32)), .unset, .unset, .unset, .unset] []))) (fun tQ kQ => XS.ifYes P.here hx rfl (pc0 := 8) (pc' := 18) rfl (hb hby at_8) rfl (XT.i0_ne_t (by decide)) (by decide) (by decide) kQ) ?_
    show OwnDone p e below _ (T.setTop (mkF m 18 #[.val (.int p1), .val (.int p2), .val (.int (1 : Int32)), .unset, .unset, .unset, .unset] []))
    refine OwnDone.go (A := (T.setTop (mkF m 20 #[.val (.int p1), .val (.int p2), .val (.int (1 : Int32)), .unset, .unset, .unset, .unset] [(.int (1 : Int32)), (.int (1 : Int32))]))) (fun tQ kQ => ?_) ?_
    · refine XS.iloadN P.here hx rfl (hb hby at_18) rfl ?_
      show Steps p.tables e below (T.setTop (mkF m 19 #[.val (.int p1), .val (.int p2), .val (.int (1 : Int32)), .unset, .unset, .unset, .unset] [(.int (1 : Int32))])) _
      refine XS.iconst P.here hx rfl (hb hby at_19) ?_
      show Steps p.tables e below (T.setTop (mkF m 20 #[.val (.int p1), .val (.int p2), .val (.int (1 : Int32)), .unset, .unset, .unset, .unset] [(.int (1 : Int32)), (.int (1 : Int32))])) _
      exact kQ
    show OwnDone p e below _ (T.setTop (mkF m 20 #[.val (.int p1), .val (.int p2), .val (.int (1 : Int32)), .unset, .unset, .unset, .unset] [(.int (1 : Int32)), (.int (1 : Int32))]))
    refine OwnDone.go (A := (T.setTop (mkF m 23 #[.val (.int p1), .val (.int p2), .val (.int (1 : Int32)), .unset, .unset, .unset, .unset] []))) (fun tQ kQ => XS.icmpNo P.here hx rfl (hb hby at_20) rfl (XT.ii_ne_f rfl) kQ) ?_
    show OwnDone p e below _ (T.setTop (mkF m 23 #[.val (.int p1), .val (.int p2), .val (.int (1 : Int32)), .unset, .unset, .unset, .unset] []))
    refine own_getS C P (host := "") (Or.inl (hw _ (List.mem_of_getElem? (i := 13) rfl))) Via.refl S1 at_23 (fun T4 P4 => ?_)
    show OwnDone p e below _ (T4.setTop (mkF m 26 #[.val (.int p1), .val (.int p2), .val (.int (1 : Int32)), .unset, .unset, .unset, .unset] [(.ref b1)]))
    refine OwnDone.go (A := (T4.setTop (mkF m 47 #[.val (.int p1), .val (.int p2), .val (.int (1 : Int32)), .val (.ref b1), .val (.int (p2.toInt8.toInt32)), .val (.int (p2 &&& (255 : Int32))), .unset] [(.int (2 : Int32)), (.int (1 : Int32))]))) (fun tQ kQ => ?_) ?_
    · refine XS.astoreN P4.here hx rfl (hb hby at_26) rfl rfl (l' := #[.val (.int p1), .val (.int p2), .val (.int (1 : Int32)), .val (.ref b1), .unset, .unset, .unset]) rfl ?_
      show Steps p.tables e below (T4.setTop (mkF m 27 #[.val (.int p1), .val (.int p2), .val (.int (1 : Int32)), .val (.ref b1), .unset, .unset, .unset] [])) _
      refine XS.goto P4.here hx rfl (pc0 := 27) (pc' := 34) rfl (hb hby at_27) (by decide) (by decide) ?_
      show Steps p.tables e below (T4.setTop (mkF m 34 #[.val (.int p1), .val (.int p2), .val (.int (1 : Int32)), .val (.ref b1), .unset, .unset, .unset] [])) _
      refine XS.iloadN P4.here hx rfl (hb hby at_34) rfl ?_
      show Steps p.tables e below (T4.setTop (mkF m 35 #[.val (.int p1), .val (.int p2), .val (.int (1 : Int32)), .val (.ref b1), .unset, .unset, .unset] [(.int p2)])) _
      refine XT.i2b P4.here hx rfl (hb hby at_35) rfl ?_
      show Steps p.tables e below (T4.setTop (mkF m 36 #[.val (.int p1), .val (.int p2), .val (.int (1 : Int32)), .val (.ref b1), .unset, .unset, .unset] [(.int (p2.toInt8.toInt32))])) _
      refine XS.istore P4.here hx rfl (hb hby at_36) rfl (l' := #[.val (.int p1), .val (.int p2), .val (.int (1 : Int32)), .val (.ref b1), .val (.int (p2.toInt8.toInt32)), .unset, .unset]) rfl ?_
      show Steps p.tables e below (T4.setTop (mkF m 38 #[.val (.int p1), .val (.int p2), .val (.int (1 : Int32)), .val (.ref b1), .val (.int (p2.toInt8.toInt32)), .unset, .unset] [])) _
      refine XS.iloadN P4.here hx rfl (hb hby at_38) rfl ?_
      show Steps p.tables e below (T4.setTop (mkF m 39 #[.val (.int p1), .val (.int p2), .val (.int (1 : Int32)), .val (.ref b1), .val (.int (p2.toInt8.toInt32)), .unset, .unset] [(.int p2)])) _
      refine XS.sipush P4.here hx rfl (hb hby at_39) ?_
      show Steps p.tables e below (T4.setTop (mkF m 42 #[.val (.int p1), .val (.int p2), .val (.int (1 : Int32)), .val (.ref b1), .val (.int (p2.toInt8.toInt32)), .unset, .unset] [(.int (255 : Int32)), (.int p2)])) _
      refine XS.iand P4.here hx rfl (hb hby at_42) rfl ?_
      show Steps p.tables e below (T4.setTop (mkF m 43 #[.val (.int p1), .val (.int p2), .val (.int (1 : Int32)), .val (.ref b1), .val (.int (p2.toInt8.toInt32)), .unset, .unset] [(.int (p2 &&& (255 : Int32)))])) _
      refine XS.istore P4.here hx rfl (hb hby at_43) rfl (l' := #[.val (.int p1), .val (.int p2), .val (.int (1 : Int32)), .val (.ref b1), .val (.int (p2.toInt8.toInt32)), .val (.int (p2 &&& (255 : Int32))), .unset]) rfl ?_
      show Steps p.tables e below (T4.setTop (mkF m 45 #[.val (.int p1), .val (.int p2), .val (.int (1 : Int32)), .val (.ref b1), .val (.int (p2.toInt8.toInt32)), .val (.int (p2 &&& (255 : Int32))), .unset] [])) _
      refine XS.iloadN P4.here hx rfl (hb hby at_45) rfl ?_
      show Steps p.tables e below (T4.setTop (mkF m 46 #[.val (.int p1), .val (.int p2), .val (.int (1 : Int32)), .val (.ref b1), .val (.int (p2.toInt8.toInt32)), .val (.int (p2 &&& (255 : Int32))), .unset] [(.int (1 : Int32))])) _
      refine XS.iconst P4.here hx rfl (hb hby at_46) ?_
      show Steps p.tables e below (T4.setTop (mkF m 47 #[.val (.int p1), .val (.int p2), .val (.int (1 : Int32)), .val (.ref b1), .val (.int (p2.toInt8.toInt32)), .val (.int (p2 &&& (255 : Int32))), .unset] [(.int (2 : Int32)), (.int (1 : Int32))])) _
      exact kQ
    show OwnDone p e below _ (T4.setTop (mkF m 47 #[.val (.int p1), .val (.int p2), .val (.int (1 : Int32)), .val (.ref b1), .val (.int (p2.toInt8.toInt32)), .val (.int (p2 &&& (255 : Int32))), .unset] [(.int (2 : Int32)), (.int (1 : Int32))]))
    refine OwnDone.go (A := (T4.setTop (mkF m 67 #[.val (.int p1), .val (.int p2), .val (.int (1 : Int32)), .val (.ref b1), .val (.int (p2.toInt8.toInt32)), .val (.int (p2 &&& (255 : Int32))), .unset] []))) (fun tQ kQ => XS.icmpYes P4.here hx rfl (pc0 := 47) (pc' := 67) rfl (hb hby at_47) rfl (XT.ii_ne_t (by decide)) (by decide) (by decide) kQ) ?_
    show OwnDone p e below _ (T4.setTop (mkF m 67 #[.val (.int p1), .val (.int p2), .val (.int (1 : Int32)), .val (.ref b1), .val (.int (p2.toInt8.toInt32)), .val (.int (p2 &&& (255 : Int32))), .unset] []))
    refine OwnDone.go (A := (T4.setTop (mkF m 71 #[.val (.int p1), .val (.int p2), .val (.int (1 : Int32)), .val (.ref b1), .val (.int (p2.toInt8.toInt32)), .val (.int (p2 &&& (255 : Int32))), .unset] [(.int (21 : Int32)), (.int (p2 &&& (255 : Int32)))]))) (fun tQ kQ => ?_) ?_
    · refine XS.iload P4.here hx rfl (hb hby at_67) rfl ?_
      show Steps p.tables e below (T4.setTop (mkF m 69 #[.val (.int p1), .val (.int p2), .val (.int (1 : Int32)), .val (.ref b1), .val (.int (p2.toInt8.toInt32)), .val (.int (p2 &&& (255 : Int32))), .unset] [(.int (p2 &&& (255 : Int32)))])) _
      refine XS.bipush P4.here hx rfl (hb hby at_69) ?_
      show Steps p.tables e below (T4.setTop (mkF m 71 #[.val (.int p1), .val (.int p2), .val (.int (1 : Int32)), .val (.ref b1), .val (.int (p2.toInt8.toInt32)), .val (.int (p2 &&& (255 : Int32))), .unset] [(.int (21 : Int32)), (.int (p2 &&& (255 : Int32)))])) _
      exact kQ
    show OwnDone p e below _ (T4.setTop (mkF m 71 #[.val (.int p1), .val (.int p2), .val (.int (1 : Int32)), .val (.ref b1), .val (.int (p2.toInt8.toInt32)), .val (.int (p2 &&& (255 : Int32))), .unset] [(.int (21 : Int32)), (.int (p2 &&& (255 : Int32)))]))
    suffices K5 : OwnDone p e below _ (T4.setTop (mkF m 86 #[.val (.int p1), .val (.int p2), .val (.int (1 : Int32)), .val (.ref b1), .val (.int (p2.toInt8.toInt32)), .val (.int (p2 &&& (255 : Int32))), .unset] [(.int (if (p2 &&& (255 : Int32)) = 21 ∨ (p2 &&& (255 : Int32)) = 37 then (1 : Int32) else 0))])) from by
      by_cases hc71 : (p2 &&& (255 : Int32)) = (21 : Int32)
      · refine OwnDone.go (A := (T4.setTop (mkF m 81 #[.val (.int p1), .val (.int p2), .val (.int (1 : Int32)), .val (.ref b1), .val (.int (p2.toInt8.toInt32)), .val (.int (p2 &&& (255 : Int32))), .unset] []))) (fun tQ kQ => XS.icmpYes P4.here hx rfl (pc0 := 71) (pc' := 81) rfl (hb hby at_71) rfl (XT.ii_eq_t hc71) (by decide) (by decide) kQ) ?_
        show OwnDone p e below _ (T4.setTop (mkF m 81 #[.val (.int p1), .val (.int p2), .val (.int (1 : Int32)), .val (.ref b1), .val (.int (p2.toInt8.toInt32)), .val (.int (p2 &&& (255 : Int32))), .unset] []))
        refine OwnDone.go (A := (T4.setTop (mkF m 86 #[.val (.int p1), .val (.int p2), .val (.int (1 : Int32)), .val (.ref b1), .val (.int (p2.toInt8.toInt32)), .val (.int (p2 &&& (255 : Int32))), .unset] [(.int (1 : Int32))]))) (fun tQ kQ => ?_) ?_
        · refine XS.iconst P4.here hx rfl (hb hby at_81) ?_
          show Steps p.tables e below (T4.setTop (mkF m 82 #[.val (.int p1), .val (.int p2), .val (.int (1 : Int32)), .val (.ref b1), .val (.int (p2.toInt8.toInt32)), .val (.int (p2 &&& (255 : Int32))), .unset] [(.int (1 : Int32))])) _
          refine XS.goto P4.here hx rfl (pc0 := 82) (pc' := 86) rfl (hb hby at_82) (by decide) (by decide) ?_
          show Steps p.tables e below (T4.setTop (mkF m 86 #[.val (.int p1), .val (.int p2), .val (.int (1 : Int32)), .val (.ref b1), .val (.int (p2.toInt8.toInt32)), .val (.int (p2 &&& (255 : Int32))), .unset] [(.int (1 : Int32))])) _
          exact kQ
        show OwnDone p e below _ (T4.setTop (mkF m 86 #[.val (.int p1), .val (.int p2), .val (.int (1 : Int32)), .val (.ref b1), .val (.int (p2.toInt8.toInt32)), .val (.int (p2 &&& (255 : Int32))), .unset] [(.int (1 : Int32))]))
        have q : ((.int (if (p2 &&& (255 : Int32)) = 21 ∨ (p2 &&& (255 : Int32)) = 37 then (1 : Int32) else 0)) : Value) = (.int (1 : Int32)) := by simp only [*, if_true, if_false, true_or, or_true, or_self]
        rw [q] at K5
        exact K5
      · refine OwnDone.go (A := (T4.setTop (mkF m 74 #[.val (.int p1), .val (.int p2), .val (.int (1 : Int32)), .val (.ref b1), .val (.int (p2.toInt8.toInt32)), .val (.int (p2 &&& (255 : Int32))), .unset] []))) (fun tQ kQ => XS.icmpNo P4.here hx rfl (hb hby at_71) rfl (XT.ii_eq_f hc71) kQ) ?_
        show OwnDone p e below _ (T4.setTop (mkF m 74 #[.val (.int p1), .val (.int p2), .val (.int (1 : Int32)), .val (.ref b1), .val (.int (p2.toInt8.toInt32)), .val (.int (p2 &&& (255 : Int32))), .unset] []))
        refine OwnDone.go (A := (T4.setTop (mkF m 78 #[.val (.int p1), .val (.int p2), .val (.int (1 : Int32)), .val (.ref b1), .val (.int (p2.toInt8.toInt32)), .val (.int (p2 &&& (255 : Int32))), .unset] [(.int (37 : Int32)), (.int (p2 &&& (255 : Int32)))]))) (fun tQ kQ => ?_) ?_
        · refine XS.iload P4.here hx rfl (hb hby at_74) rfl ?_
          show Steps p.tables e below (T4.setTop (mkF m 76 #[.val (.int p1), .val (.int p2), .val (.int (1 : Int32)), .val (.ref b1), .val (.int (p2.toInt8.toInt32)), .val (.int (p2 &&& (255 : Int32))), .unset] [(.int (p2 &&& (255 : Int32)))])) _
          refine XS.bipush P4.here hx rfl (hb hby at_76) ?_
          show Steps p.tables e below (T4.setTop (mkF m 78 #[.val (.int p1), .val (.int p2), .val (.int (1 : Int32)), .val (.ref b1), .val (.int (p2.toInt8.toInt32)), .val (.int (p2 &&& (255 : Int32))), .unset] [(.int (37 : Int32)), (.int (p2 &&& (255 : Int32)))])) _
          exact kQ
        show OwnDone p e below _ (T4.setTop (mkF m 78 #[.val (.int p1), .val (.int p2), .val (.int (1 : Int32)), .val (.ref b1), .val (.int (p2.toInt8.toInt32)), .val (.int (p2 &&& (255 : Int32))), .unset] [(.int (37 : Int32)), (.int (p2 &&& (255 : Int32)))]))
        by_cases hc78 : (p2 &&& (255 : Int32)) = (37 : Int32)
        · refine OwnDone.go (A := (T4.setTop (mkF m 81 #[.val (.int p1), .val (.int p2), .val (.int (1 : Int32)), .val (.ref b1), .val (.int (p2.toInt8.toInt32)), .val (.int (p2 &&& (255 : Int32))), .unset] []))) (fun tQ kQ => XS.icmpNo P4.here hx rfl (hb hby at_78) rfl (XT.ii_ne_f hc78) kQ) ?_
          show OwnDone p e below _ (T4.setTop (mkF m 81 #[.val (.int p1), .val (.int p2), .val (.int (1 : Int32)), .val (.ref b1), .val (.int (p2.toInt8.toInt32)), .val (.int (p2 &&& (255 : Int32))), .unset] []))
          refine OwnDone.go (A := (T4.setTop (mkF m 86 #[.val (.int p1), .val (.int p2), .val (.int (1 : Int32)), .val (.ref b1), .val (.int (p2.toInt8.toInt32)), .val (.int (p2 &&& (255 : Int32))), .unset] [(.int (1 : Int32))]))) (fun tQ kQ => ?_) ?_
          · refine XS.iconst P4.here hx rfl (hb hby at_81) ?_
            show Steps p.tables e below (T4.setTop (mkF m 82 #[.val (.int p1), .val (.int p2), .val (.int (1 : Int32)), .val (.ref b1), .val (.int (p2.toInt8.toInt32)), .val (.int (p2 &&& (255 : Int32))), .unset] [(.int (1 : Int32))])) _
            refine XS.goto P4.here hx rfl (pc0 := 82) (pc' := 86) rfl (hb hby at_82) (by decide) (by decide) ?_
            show Steps p.tables e below (T4.setTop (mkF m 86 #[.val (.int p1), .val (.int p2), .val (.int (1 : Int32)), .val (.ref b1), .val (.int (p2.toInt8.toInt32)), .val (.int (p2 &&& (255 : Int32))), .unset] [(.int (1 : Int32))])) _
            exact kQ
          show OwnDone p e below _ (T4.setTop (mkF m 86 #[.val (.int p1), .val (.int p2), .val (.int (1 : Int32)), .val (.ref b1), .val (.int (p2.toInt8.toInt32)), .val (.int (p2 &&& (255 : Int32))), .unset] [(.int (1 : Int32))]))
          have q : ((.int (if (p2 &&& (255 : Int32)) = 21 ∨ (p2 &&& (255 : Int32)) = 37 then (1 : Int32) else 0)) : Value) = (.int (1 : Int32)) := by simp only [*, if_true, if_false, true_or, or_true, or_self]
          rw [q] at K5
          exact K5
        · refine OwnDone.go (A := (T4.setTop (mkF m 85 #[.val (.int p1), .val (.int p2), .val (.int (1 : Int32)), .val (.ref b1), .val (.int (p2.toInt8.toInt32)), .val (.int (p2 &&& (255 : Int32))), .unset] []))) (fun tQ kQ => XS.icmpYes P4.here hx rfl (pc0 := 78) (pc' := 85) rfl (hb hby at_78) rfl (XT.ii_ne_t hc78) (by decide) (by decide) kQ) ?_
          show OwnDone p e below _ (T4.setTop (mkF m 85 #[.val (.int p1), .val (.int p2), .val (.int (1 : Int32)), .val (.ref b1), .val (.int (p2.toInt8.toInt32)), .val (.int (p2 &&& (255 : Int32))), .unset] []))
          refine OwnDone.go (A := (T4.setTop (mkF m 86 #[.val (.int p1), .val (.int p2), .val (.int (1 : Int32)), .val (.ref b1), .val (.int (p2.toInt8.toInt32)), .val (.int (p2 &&& (255 : Int32))), .unset] [(.int (0 : Int32))]))) (fun tQ kQ => ?_) ?_
          · refine XS.iconst P4.here hx rfl (hb hby at_85) ?_
            show Steps p.tables e below (T4.setTop (mkF m 86 #[.val (.int p1), .val (.int p2), .val (.int (1 : Int32)), .val (.ref b1), .val (.int (p2.toInt8.toInt32)), .val (.int (p2 &&& (255 : Int32))), .unset] [(.int (0 : Int32))])) _
            exact kQ
          show OwnDone p e below _ (T4.setTop (mkF m 86 #[.val (.int p1), .val (.int p2), .val (.int (1 : Int32)), .val (.ref b1), .val (.int (p2.toInt8.toInt32)), .val (.int (p2 &&& (255 : Int32))), .unset] [(.int (0 : Int32))]))
          have q : ((.int (if (p2 &&& (255 : Int32)) = 21 ∨ (p2 &&& (255 : Int32)) = 37 then (1 : Int32) else 0)) : Value) = (.int (0 : Int32)) := by simp only [*, if_true, if_false, true_or, or_true, or_self]
          rw [q] at K5
          exact K5
    show OwnDone p e below _ (T4.setTop (mkF m 86 #[.val (.int p1), .val (.int p2), .val (.int (1 : Int32)), .val (.ref b1), .val (.int (p2.toInt8.toInt32)), .val (.int (p2 &&& (255 : Int32))), .unset] [(.int (if (p2 &&& (255 : Int32)) = 21 ∨ (p2 &&& (255 : Int32)) = 37 then (1 : Int32) else 0))]))
    refine OwnDone.go (A := (T4.setTop (mkF m 91 #[.val (.int p1), .val (.int p2), .val (.int (1 : Int32)), .val (.ref b1), .val (.int (p2.toInt8.toInt32)), .val (.int (p2 &&& (255 : Int32))), .val (.int (if (p2 &&& (255 : Int32)) = 21 ∨ (p2 &&& (255 : Int32)) = 37 then (1 : Int32) else 0))] [(.int (p2.toInt8.toInt32)), (.ref b1)]))) (fun tQ kQ => ?_) ?_
    · refine XS.istore P4.here hx rfl (hb hby at_86) rfl (l' := #[.val (.int p1), .val (.int p2), .val (.int (1 : Int32)), .val (.ref b1), .val (.int (p2.toInt8.toInt32)), .val (.int (p2 &&& (255 : Int32))), .val (.int (if (p2 &&& (255 : Int32)) = 21 ∨ (p2 &&& (255 : Int32)) = 37 then (1 : Int32) else 0))]) rfl ?_
      show Steps p.tables e below (T4.setTop (mkF m 88 #[.val (.int p1), .val (.int p2), .val (.int (1 : Int32)), .val (.ref b1), .val (.int (p2.toInt8.toInt32)), .val (.int (p2 &&& (255 : Int32))), .val (.int (if (p2 &&& (255 : Int32)) = 21 ∨ (p2 &&& (255 : Int32)) = 37 then (1 : Int32) else 0))] [])) _
      refine XS.aloadN P4.here hx rfl (hb hby at_88) rfl rfl ?_
      show Steps p.tables e below (T4.setTop (mkF m 89 #[.val (.int p1), .val (.int p2), .val (.int (1 : Int32)), .val (.ref b1), .val (.int (p2.toInt8.toInt32)), .val (.int (p2 &&& (255 : Int32))), .val (.int (if (p2 &&& (255 : Int32)) = 21 ∨ (p2 &&& (255 : Int32)) = 37 then (1 : Int32) else 0))] [(.ref b1)])) _
      refine XS.iload P4.here hx rfl (hb hby at_89) rfl ?_
      show Steps p.tables e below (T4.setTop (mkF m 91 #[.val (.int p1), .val (.int p2), .val (.int (1 : Int32)), .val (.ref b1), .val (.int (p2.toInt8.toInt32)), .val (.int (p2 &&& (255 : Int32))), .val (.int (if (p2 &&& (255 : Int32)) = 21 ∨ (p2 &&& (255 : Int32)) = 37 then (1 : Int32) else 0))] [(.int (p2.toInt8.toInt32)), (.ref b1)])) _
      exact kQ
    show OwnDone p e below _ (T4.setTop (mkF m 91 #[.val (.int p1), .val (.int p2), .val (.int (1 : Int32)), .val (.ref b1), .val (.int (p2.toInt8.toInt32)), .val (.int (p2 &&& (255 : Int32))), .val (.int (if (p2 &&& (255 : Int32)) = 21 ∨ (p2 &&& (255 : Int32)) = 37 then (1 : Int32) else 0))] [(.int (p2.toInt8.toInt32)), (.ref b1)]))
    refine own_callV (y := (⟨"com/example/glasshouse/glasshouse/model/CodePage", "isLineEnd", "(B)Z"⟩ : MethodName)) (z := (⟨"com/example/glasshouse/glasshouse/model/CodePage", "isLineEnd", "(B)Z"⟩ : MethodName)) (CC := "com/example/glasshouse/glasshouse/model/CodePage") C P4 E1 (hw _ (List.mem_of_getElem? (i := 4) rfl)) (hw _ (List.mem_of_getElem? (i := 5) rfl)) (hw _ (List.mem_of_getElem? (i := 7) rfl)) (hw _ (List.mem_of_getElem? (i := 7) rfl)) (hw _ (List.mem_of_getElem? (i := 6) rfl)) (hw _ (List.mem_of_getElem? (i := 2) rfl)) (hw _ (List.mem_of_getElem? (i := 8) rfl)) (by decide) (rm1 l Z a0 hw b1 (p2.toInt8.toInt32) h0 hE F1) (as := [(.int (p2.toInt8.toInt32))]) (rest := []) pd_0 rfl rfl (wd := 0) rfl rfl at_91 all0 (by decide) (by decide) (by decide) (by decide) (fun T6 h6 v6 P6 K6 hQ6 => ?_)
    obtain ⟨rfl, rfl⟩ := hQ6
    show OwnDone p e below _ (T6.setTop (mkF m 94 #[.val (.int p1), .val (.int p2), .val (.int (1 : Int32)), .val (.ref b1), .val (.int (p2.toInt8.toInt32)), .val (.int (p2 &&& (255 : Int32))), .val (.int (if (p2 &&& (255 : Int32)) = 21 ∨ (p2 &&& (255 : Int32)) = 37 then (1 : Int32) else 0))] [(.int (if (p2.toInt8.toInt32) = 21 ∨ (p2.toInt8.toInt32) = 37 then (1 : Int32) else 0))]))
    refine OwnDone.go (A := (T6.setTop (mkF m 96 #[.val (.int p1), .val (.int p2), .val (.int (1 : Int32)), .val (.ref b1), .val (.int (p2.toInt8.toInt32)), .val (.int (p2 &&& (255 : Int32))), .val (.int (if (p2 &&& (255 : Int32)) = 21 ∨ (p2 &&& (255 : Int32)) = 37 then (1 : Int32) else 0))] [(.int (if (p2 &&& (255 : Int32)) = 21 ∨ (p2 &&& (255 : Int32)) = 37 then (1 : Int32) else 0)), (.int (if (p2.toInt8.toInt32) = 21 ∨ (p2.toInt8.toInt32) = 37 then (1 : Int32) else 0))]))) (fun tQ kQ => ?_) ?_
    · refine XS.iload P6.here hx rfl (hb hby at_94) rfl ?_
      show Steps p.tables e below (T6.setTop (mkF m 96 #[.val (.int p1), .val (.int p2), .val (.int (1 : Int32)), .val (.ref b1), .val (.int (p2.toInt8.toInt32)), .val (.int (p2 &&& (255 : Int32))), .val (.int (if (p2 &&& (255 : Int32)) = 21 ∨ (p2 &&& (255 : Int32)) = 37 then (1 : Int32) else 0))] [(.int (if (p2 &&& (255 : Int32)) = 21 ∨ (p2 &&& (255 : Int32)) = 37 then (1 : Int32) else 0)), (.int (if (p2.toInt8.toInt32) = 21 ∨ (p2.toInt8.toInt32) = 37 then (1 : Int32) else 0))])) _
      exact kQ
    show OwnDone p e below _ (T6.setTop (mkF m 96 #[.val (.int p1), .val (.int p2), .val (.int (1 : Int32)), .val (.ref b1), .val (.int (p2.toInt8.toInt32)), .val (.int (p2 &&& (255 : Int32))), .val (.int (if (p2 &&& (255 : Int32)) = 21 ∨ (p2 &&& (255 : Int32)) = 37 then (1 : Int32) else 0))] [(.int (if (p2 &&& (255 : Int32)) = 21 ∨ (p2 &&& (255 : Int32)) = 37 then (1 : Int32) else 0)), (.int (if (p2.toInt8.toInt32) = 21 ∨ (p2.toInt8.toInt32) = 37 then (1 : Int32) else 0))]))
    refine OwnDone.go (A := (T6.setTop (mkF m 99 #[.val (.int p1), .val (.int p2), .val (.int (1 : Int32)), .val (.ref b1), .val (.int (p2.toInt8.toInt32)), .val (.int (p2 &&& (255 : Int32))), .val (.int (if (p2 &&& (255 : Int32)) = 21 ∨ (p2 &&& (255 : Int32)) = 37 then (1 : Int32) else 0))] []))) (fun tQ kQ => XS.icmpNo P6.here hx rfl (hb hby at_96) rfl (XT.ii_ne_f (own_ebc p2)) kQ) ?_
    show OwnDone p e below _ (T6.setTop (mkF m 99 #[.val (.int p1), .val (.int p2), .val (.int (1 : Int32)), .val (.ref b1), .val (.int (p2.toInt8.toInt32)), .val (.int (p2 &&& (255 : Int32))), .val (.int (if (p2 &&& (255 : Int32)) = 21 ∨ (p2 &&& (255 : Int32)) = 37 then (1 : Int32) else 0))] []))
    refine OwnDone.go (A := (T6.setTop (mkF m 104 #[.val (.int p1), .val (.int p2), .val (.int (1 : Int32)), .val (.ref b1), .val (.int (p2.toInt8.toInt32)), .val (.int (p2 &&& (255 : Int32))), .val (.int (if (p2 &&& (255 : Int32)) = 21 ∨ (p2 &&& (255 : Int32)) = 37 then (1 : Int32) else 0))] [(.int (1 : Int32))]))) (fun tQ kQ => ?_) ?_
    · refine XS.iconst P6.here hx rfl (hb hby at_99) ?_
      show Steps p.tables e below (T6.setTop (mkF m 100 #[.val (.int p1), .val (.int p2), .val (.int (1 : Int32)), .val (.ref b1), .val (.int (p2.toInt8.toInt32)), .val (.int (p2 &&& (255 : Int32))), .val (.int (if (p2 &&& (255 : Int32)) = 21 ∨ (p2 &&& (255 : Int32)) = 37 then (1 : Int32) else 0))] [(.int (1 : Int32))])) _
      refine XS.goto P6.here hx rfl (pc0 := 100) (pc' := 104) rfl (hb hby at_100) (by decide) (by decide) ?_
      show Steps p.tables e below (T6.setTop (mkF m 104 #[.val (.int p1), .val (.int p2), .val (.int (1 : Int32)), .val (.ref b1), .val (.int (p2.toInt8.toInt32)), .val (.int (p2 &&& (255 : Int32))), .val (.int (if (p2 &&& (255 : Int32)) = 21 ∨ (p2 &&& (255 : Int32)) = 37 then (1 : Int32) else 0))] [(.int (1 : Int32))])) _
      exact kQ
    show OwnDone p e below _ (T6.setTop (mkF m 104 #[.val (.int p1), .val (.int p2), .val (.int (1 : Int32)), .val (.ref b1), .val (.int (p2.toInt8.toInt32)), .val (.int (p2 &&& (255 : Int32))), .val (.int (if (p2 &&& (255 : Int32)) = 21 ∨ (p2 &&& (255 : Int32)) = 37 then (1 : Int32) else 0))] [(.int (1 : Int32))]))
    refine own_retN C P6 (by simp) (z' := (1 : Int32)) (by decide) at_104 (by decide) (by decide) rfl
  · rw [hk]
    show OwnDone p e below _ (T.setTop (mkF m 7 #[.val (.int p1), .val (.int p2), .val (.int (2 : Int32)), .unset, .unset, .unset, .unset] []))
    refine OwnDone.go (A := (T.setTop (mkF m 8 #[.val (.int p1), .val (.int p2), .val (.int (2 : Int32)), .unset, .unset, .unset, .unset] [(.int (2 : Int32))]))) (fun tQ kQ => ?_) ?_
    · refine XS.iloadN P.here hx rfl (hb hby at_7) rfl ?_
      show Steps p.tables e below (T.setTop (mkF m 8 #[.val (.int p1), .val (.int p2), .val (.int (2 : Int32)), .unset, .unset, .unset, .unset] [(.int (2 : Int32))])) _
      exact kQ
    show OwnDone p e below _ (T.setTop (mkF m 8 #[.val (.int p1), .val (.int p2), .val (.int (2 : Int32)), .unset, .unset, .unset, .unset] [(.int (2 : Int32))]))
    refine OwnDone.go (A := (T.setTop (mkF m 18 #[.val (.int p1), .val (.int p2), .val (.int (2 : Int32)), .unset, .unset, .unset, .unset] []))) (fun tQ kQ => XS.ifYes P.here hx rfl (pc0 := 8) (pc' := 18) rfl (hb hby at_8) rfl (XT.i0_ne_t (by decide)) (by decide) (by decide) kQ) ?_
    show OwnDone p e below _ (T.setTop (mkF m 18 #[.val (.int p1), .val (.int p2), .val (.int (2 : Int32)), .unset, .unset, .unset, .unset] []))
    refine OwnDone.go (A := (T.setTop (mkF m 20 #[.val (.int p1), .val (.int p2), .val (.int (2 : Int32)), .unset, .unset, .unset, .unset] [(.int (1 : Int32)), (.int (2 : Int32))]))) (fun tQ kQ => ?_) ?_
    · refine XS.iloadN P.here hx rfl (hb hby at_18) rfl ?_
      show Steps p.tables e below (T.setTop (mkF m 19 #[.val (.int p1), .val (.int p2), .val (.int (2 : Int32)), .unset, .unset, .unset, .unset] [(.int (2 : Int32))])) _
      refine XS.iconst P.here hx rfl (hb hby at_19) ?_
      show Steps p.tables e below (T.setTop (mkF m 20 #[.val (.int p1), .val (.int p2), .val (.int (2 : Int32)), .unset, .unset, .unset, .unset] [(.int (1 : Int32)), (.int (2 : Int32))])) _
      exact kQ
    show OwnDone p e below _ (T.setTop (mkF m 20 #[.val (.int p1), .val (.int p2), .val (.int (2 : Int32)), .unset, .unset, .unset, .unset] [(.int (1 : Int32)), (.int (2 : Int32))]))
    refine OwnDone.go (A := (T.setTop (mkF m 30 #[.val (.int p1), .val (.int p2), .val (.int (2 : Int32)), .unset, .unset, .unset, .unset] []))) (fun tQ kQ => XS.icmpYes P.here hx rfl (pc0 := 20) (pc' := 30) rfl (hb hby at_20) rfl (XT.ii_ne_t (by decide)) (by decide) (by decide) kQ) ?_
    show OwnDone p e below _ (T.setTop (mkF m 30 #[.val (.int p1), .val (.int p2), .val (.int (2 : Int32)), .unset, .unset, .unset, .unset] []))
    refine own_getS C P (host := "") (Or.inl (hw _ (List.mem_of_getElem? (i := 11) rfl))) Via.refl S2 at_30 (fun T7 P7 => ?_)
    show OwnDone p e below _ (T7.setTop (mkF m 33 #[.val (.int p1), .val (.int p2), .val (.int (2 : Int32)), .unset, .unset, .unset, .unset] [(.ref b2)]))
    refine OwnDone.go (A := (T7.setTop (mkF m 47 #[.val (.int p1), .val (.int p2), .val (.int (2 : Int32)), .val (.ref b2), .val (.int (p2.toInt8.toInt32)), .val (.int (p2 &&& (255 : Int32))), .unset] [(.int (2 : Int32)), (.int (2 : Int32))]))) (fun tQ kQ => ?_) ?_
    · refine XS.astoreN P7.here hx rfl (hb hby at_33) rfl rfl (l' := #[.val (.int p1), .val (.int p2), .val (.int (2 : Int32)), .val (.ref b2), .unset, .unset, .unset]) rfl ?_
      show Steps p.tables e below (T7.setTop (mkF m 34 #[.val (.int p1), .val (.int p2), .val (.int (2 : Int32)), .val (.ref b2), .unset, .unset, .unset] [])) _
      refine XS.iloadN P7.here hx rfl (hb hby at_34) rfl ?_
      show Steps p.tables e below (T7.setTop (mkF m 35 #[.val (.int p1), .val (.int p2), .val (.int (2 : Int32)), .val (.ref b2), .unset, .unset, .unset] [(.int p2)])) _
      refine XT.i2b P7.here hx rfl (hb hby at_35) rfl ?_
      show Steps p.tables e below (T7.setTop (mkF m 36 #[.val (.int p1), .val (.int p2), .val (.int (2 : Int32)), .val (.ref b2), .unset, .unset, .unset] [(.int (p2.toInt8.toInt32))])) _
      refine XS.istore P7.here hx rfl (hb hby at_36) rfl (l' := #[.val (.int p1), .val (.int p2), .val (.int (2 : Int32)), .val (.ref b2), .val (.int (p2.toInt8.toInt32)), .unset, .unset]) rfl ?_
      show Steps p.tables e below (T7.setTop (mkF m 38 #[.val (.int p1), .val (.int p2), .val (.int (2 : Int32)), .val (.ref b2), .val (.int (p2.toInt8.toInt32)), .unset, .unset] [])) _
      refine XS.iloadN P7.here hx rfl (hb hby at_38) rfl ?_
      show Steps p.tables e below (T7.setTop (mkF m 39 #[.val (.int p1), .val (.int p2), .val (.int (2 : Int32)), .val (.ref b2), .val (.int (p2.toInt8.toInt32)), .unset, .unset] [(.int p2)])) _
      refine XS.sipush P7.here hx rfl (hb hby at_39) ?_
      show Steps p.tables e below (T7.setTop (mkF m 42 #[.val (.int p1), .val (.int p2), .val (.int (2 : Int32)), .val (.ref b2), .val (.int (p2.toInt8.toInt32)), .unset, .unset] [(.int (255 : Int32)), (.int p2)])) _
      refine XS.iand P7.here hx rfl (hb hby at_42) rfl ?_
      show Steps p.tables e below (T7.setTop (mkF m 43 #[.val (.int p1), .val (.int p2), .val (.int (2 : Int32)), .val (.ref b2), .val (.int (p2.toInt8.toInt32)), .unset, .unset] [(.int (p2 &&& (255 : Int32)))])) _
      refine XS.istore P7.here hx rfl (hb hby at_43) rfl (l' := #[.val (.int p1), .val (.int p2), .val (.int (2 : Int32)), .val (.ref b2), .val (.int (p2.toInt8.toInt32)), .val (.int (p2 &&& (255 : Int32))), .unset]) rfl ?_
      show Steps p.tables e below (T7.setTop (mkF m 45 #[.val (.int p1), .val (.int p2), .val (.int (2 : Int32)), .val (.ref b2), .val (.int (p2.toInt8.toInt32)), .val (.int (p2 &&& (255 : Int32))), .unset] [])) _
      refine XS.iloadN P7.here hx rfl (hb hby at_45) rfl ?_
      show Steps p.tables e below (T7.setTop (mkF m 46 #[.val (.int p1), .val (.int p2), .val (.int (2 : Int32)), .val (.ref b2), .val (.int (p2.toInt8.toInt32)), .val (.int (p2 &&& (255 : Int32))), .unset] [(.int (2 : Int32))])) _
      refine XS.iconst P7.here hx rfl (hb hby at_46) ?_
      show Steps p.tables e below (T7.setTop (mkF m 47 #[.val (.int p1), .val (.int p2), .val (.int (2 : Int32)), .val (.ref b2), .val (.int (p2.toInt8.toInt32)), .val (.int (p2 &&& (255 : Int32))), .unset] [(.int (2 : Int32)), (.int (2 : Int32))])) _
      exact kQ
    show OwnDone p e below _ (T7.setTop (mkF m 47 #[.val (.int p1), .val (.int p2), .val (.int (2 : Int32)), .val (.ref b2), .val (.int (p2.toInt8.toInt32)), .val (.int (p2 &&& (255 : Int32))), .unset] [(.int (2 : Int32)), (.int (2 : Int32))]))
    refine OwnDone.go (A := (T7.setTop (mkF m 50 #[.val (.int p1), .val (.int p2), .val (.int (2 : Int32)), .val (.ref b2), .val (.int (p2.toInt8.toInt32)), .val (.int (p2 &&& (255 : Int32))), .unset] []))) (fun tQ kQ => XS.icmpNo P7.here hx rfl (hb hby at_47) rfl (XT.ii_ne_f rfl) kQ) ?_
    show OwnDone p e below _ (T7.setTop (mkF m 50 #[.val (.int p1), .val (.int p2), .val (.int (2 : Int32)), .val (.ref b2), .val (.int (p2.toInt8.toInt32)), .val (.int (p2 &&& (255 : Int32))), .unset] []))
    refine OwnDone.go (A := (T7.setTop (mkF m 54 #[.val (.int p1), .val (.int p2), .val (.int (2 : Int32)), .val (.ref b2), .val (.int (p2.toInt8.toInt32)), .val (.int (p2 &&& (255 : Int32))), .unset] [(.int (10 : Int32)), (.int (p2 &&& (255 : Int32)))]))) (fun tQ kQ => ?_) ?_
    · refine XS.iload P7.here hx rfl (hb hby at_50) rfl ?_
      show Steps p.tables e below (T7.setTop (mkF m 52 #[.val (.int p1), .val (.int p2), .val (.int (2 : Int32)), .val (.ref b2), .val (.int (p2.toInt8.toInt32)), .val (.int (p2 &&& (255 : Int32))), .unset] [(.int (p2 &&& (255 : Int32)))])) _
      refine XS.bipush P7.here hx rfl (hb hby at_52) ?_
      show Steps p.tables e below (T7.setTop (mkF m 54 #[.val (.int p1), .val (.int p2), .val (.int (2 : Int32)), .val (.ref b2), .val (.int (p2.toInt8.toInt32)), .val (.int (p2 &&& (255 : Int32))), .unset] [(.int (10 : Int32)), (.int (p2 &&& (255 : Int32)))])) _
      exact kQ
    show OwnDone p e below _ (T7.setTop (mkF m 54 #[.val (.int p1), .val (.int p2), .val (.int (2 : Int32)), .val (.ref b2), .val (.int (p2.toInt8.toInt32)), .val (.int (p2 &&& (255 : Int32))), .unset] [(.int (10 : Int32)), (.int (p2 &&& (255 : Int32)))]))
    suffices K8 : OwnDone p e below _ (T7.setTop (mkF m 62 #[.val (.int p1), .val (.int p2), .val (.int (2 : Int32)), .val (.ref b2), .val (.int (p2.toInt8.toInt32)), .val (.int (p2 &&& (255 : Int32))), .unset] [(.int (if (p2 &&& (255 : Int32)) = 10 then (1 : Int32) else 0))])) from by
      by_cases hc54 : (p2 &&& (255 : Int32)) = (10 : Int32)
      · refine OwnDone.go (A := (T7.setTop (mkF m 57 #[.val (.int p1), .val (.int p2), .val (.int (2 : Int32)), .val (.ref b2), .val (.int (p2.toInt8.toInt32)), .val (.int (p2 &&& (255 : Int32))), .unset] []))) (fun tQ kQ => XS.icmpNo P7.here hx rfl (hb hby at_54) rfl (XT.ii_ne_f hc54) kQ) ?_
        show OwnDone p e below _ (T7.setTop (mkF m 57 #[.val (.int p1), .val (.int p2), .val (.int (2 : Int32)), .val (.ref b2), .val (.int (p2.toInt8.toInt32)), .val (.int (p2 &&& (255 : Int32))), .unset] []))
        refine OwnDone.go (A := (T7.setTop (mkF m 62 #[.val (.int p1), .val (.int p2), .val (.int (2 : Int32)), .val (.ref b2), .val (.int (p2.toInt8.toInt32)), .val (.int (p2 &&& (255 : Int32))), .unset] [(.int (1 : Int32))]))) (fun tQ kQ => ?_) ?_
        · refine XS.iconst P7.here hx rfl (hb hby at_57) ?_
          show Steps p.tables e below (T7.setTop (mkF m 58 #[.val (.int p1), .val (.int p2), .val (.int (2 : Int32)), .val (.ref b2), .val (.int (p2.toInt8.toInt32)), .val (.int (p2 &&& (255 : Int32))), .unset] [(.int (1 : Int32))])) _
          refine XS.goto P7.here hx rfl (pc0 := 58) (pc' := 62) rfl (hb hby at_58) (by decide) (by decide) ?_
          show Steps p.tables e below (T7.setTop (mkF m 62 #[.val (.int p1), .val (.int p2), .val (.int (2 : Int32)), .val (.ref b2), .val (.int (p2.toInt8.toInt32)), .val (.int (p2 &&& (255 : Int32))), .unset] [(.int (1 : Int32))])) _
          exact kQ
        show OwnDone p e below _ (T7.setTop (mkF m 62 #[.val (.int p1), .val (.int p2), .val (.int (2 : Int32)), .val (.ref b2), .val (.int (p2.toInt8.toInt32)), .val (.int (p2 &&& (255 : Int32))), .unset] [(.int (1 : Int32))]))
        have q : ((.int (if (p2 &&& (255 : Int32)) = 10 then (1 : Int32) else 0)) : Value) = (.int (1 : Int32)) := by simp only [*, if_true, if_false]
        rw [q] at K8
        exact K8
      · refine OwnDone.go (A := (T7.setTop (mkF m 61 #[.val (.int p1), .val (.int p2), .val (.int (2 : Int32)), .val (.ref b2), .val (.int (p2.toInt8.toInt32)), .val (.int (p2 &&& (255 : Int32))), .unset] []))) (fun tQ kQ => XS.icmpYes P7.here hx rfl (pc0 := 54) (pc' := 61) rfl (hb hby at_54) rfl (XT.ii_ne_t hc54) (by decide) (by decide) kQ) ?_
        show OwnDone p e below _ (T7.setTop (mkF m 61 #[.val (.int p1), .val (.int p2), .val (.int (2 : Int32)), .val (.ref b2), .val (.int (p2.toInt8.toInt32)), .val (.int (p2 &&& (255 : Int32))), .unset] []))
        refine OwnDone.go (A := (T7.setTop (mkF m 62 #[.val (.int p1), .val (.int p2), .val (.int (2 : Int32)), .val (.ref b2), .val (.int (p2.toInt8.toInt32)), .val (.int (p2 &&& (255 : Int32))), .unset] [(.int (0 : Int32))]))) (fun tQ kQ => ?_) ?_
        · refine XS.iconst P7.here hx rfl (hb hby at_61) ?_
          show Steps p.tables e below (T7.setTop (mkF m 62 #[.val (.int p1), .val (.int p2), .val (.int (2 : Int32)), .val (.ref b2), .val (.int (p2.toInt8.toInt32)), .val (.int (p2 &&& (255 : Int32))), .unset] [(.int (0 : Int32))])) _
          exact kQ
        show OwnDone p e below _ (T7.setTop (mkF m 62 #[.val (.int p1), .val (.int p2), .val (.int (2 : Int32)), .val (.ref b2), .val (.int (p2.toInt8.toInt32)), .val (.int (p2 &&& (255 : Int32))), .unset] [(.int (0 : Int32))]))
        have q : ((.int (if (p2 &&& (255 : Int32)) = 10 then (1 : Int32) else 0)) : Value) = (.int (0 : Int32)) := by simp only [*, if_true, if_false]
        rw [q] at K8
        exact K8
    show OwnDone p e below _ (T7.setTop (mkF m 62 #[.val (.int p1), .val (.int p2), .val (.int (2 : Int32)), .val (.ref b2), .val (.int (p2.toInt8.toInt32)), .val (.int (p2 &&& (255 : Int32))), .unset] [(.int (if (p2 &&& (255 : Int32)) = 10 then (1 : Int32) else 0))]))
    refine OwnDone.go (A := (T7.setTop (mkF m 91 #[.val (.int p1), .val (.int p2), .val (.int (2 : Int32)), .val (.ref b2), .val (.int (p2.toInt8.toInt32)), .val (.int (p2 &&& (255 : Int32))), .val (.int (if (p2 &&& (255 : Int32)) = 10 then (1 : Int32) else 0))] [(.int (p2.toInt8.toInt32)), (.ref b2)]))) (fun tQ kQ => ?_) ?_
    · refine XS.istore P7.here hx rfl (hb hby at_62) rfl (l' := #[.val (.int p1), .val (.int p2), .val (.int (2 : Int32)), .val (.ref b2), .val (.int (p2.toInt8.toInt32)), .val (.int (p2 &&& (255 : Int32))), .val (.int (if (p2 &&& (255 : Int32)) = 10 then (1 : Int32) else 0))]) rfl ?_
      show Steps p.tables e below (T7.setTop (mkF m 64 #[.val (.int p1), .val (.int p2), .val (.int (2 : Int32)), .val (.ref b2), .val (.int (p2.toInt8.toInt32)), .val (.int (p2 &&& (255 : Int32))), .val (.int (if (p2 &&& (255 : Int32)) = 10 then (1 : Int32) else 0))] [])) _
      refine XS.goto P7.here hx rfl (pc0 := 64) (pc' := 88) rfl (hb hby at_64) (by decide) (by decide) ?_
      show Steps p.tables e below (T7.setTop (mkF m 88 #[.val (.int p1), .val (.int p2), .val (.int (2 : Int32)), .val (.ref b2), .val (.int (p2.toInt8.toInt32)), .val (.int (p2 &&& (255 : Int32))), .val (.int (if (p2 &&& (255 : Int32)) = 10 then (1 : Int32) else 0))] [])) _
      refine XS.aloadN P7.here hx rfl (hb hby at_88) rfl rfl ?_
      show Steps p.tables e below (T7.setTop (mkF m 89 #[.val (.int p1), .val (.int p2), .val (.int (2 : Int32)), .val (.ref b2), .val (.int (p2.toInt8.toInt32)), .val (.int (p2 &&& (255 : Int32))), .val (.int (if (p2 &&& (255 : Int32)) = 10 then (1 : Int32) else 0))] [(.ref b2)])) _
      refine XS.iload P7.here hx rfl (hb hby at_89) rfl ?_
      show Steps p.tables e below (T7.setTop (mkF m 91 #[.val (.int p1), .val (.int p2), .val (.int (2 : Int32)), .val (.ref b2), .val (.int (p2.toInt8.toInt32)), .val (.int (p2 &&& (255 : Int32))), .val (.int (if (p2 &&& (255 : Int32)) = 10 then (1 : Int32) else 0))] [(.int (p2.toInt8.toInt32)), (.ref b2)])) _
      exact kQ
    show OwnDone p e below _ (T7.setTop (mkF m 91 #[.val (.int p1), .val (.int p2), .val (.int (2 : Int32)), .val (.ref b2), .val (.int (p2.toInt8.toInt32)), .val (.int (p2 &&& (255 : Int32))), .val (.int (if (p2 &&& (255 : Int32)) = 10 then (1 : Int32) else 0))] [(.int (p2.toInt8.toInt32)), (.ref b2)]))
    refine own_callV (y := (⟨"com/example/glasshouse/glasshouse/model/CodePage", "isLineEnd", "(B)Z"⟩ : MethodName)) (z := (⟨"com/example/glasshouse/glasshouse/model/CodePage", "isLineEnd", "(B)Z"⟩ : MethodName)) (CC := "com/example/glasshouse/glasshouse/model/CodePage") C P7 E2 (hw _ (List.mem_of_getElem? (i := 4) rfl)) (hw _ (List.mem_of_getElem? (i := 5) rfl)) (hw _ (List.mem_of_getElem? (i := 7) rfl)) (hw _ (List.mem_of_getElem? (i := 7) rfl)) (hw _ (List.mem_of_getElem? (i := 6) rfl)) (hw _ (List.mem_of_getElem? (i := 2) rfl)) (hw _ (List.mem_of_getElem? (i := 8) rfl)) (by decide) (rm2 l Z a0 hw b2 (p2.toInt8.toInt32) h0 hE F2) (as := [(.int (p2.toInt8.toInt32))]) (rest := []) pd_0 rfl rfl (wd := 0) rfl rfl at_91 all0 (by decide) (by decide) (by decide) (by decide) (fun T9 h9 v9 P9 K9 hQ9 => ?_)
    obtain ⟨rfl, rfl⟩ := hQ9
    show OwnDone p e below _ (T9.setTop (mkF m 94 #[.val (.int p1), .val (.int p2), .val (.int (2 : Int32)), .val (.ref b2), .val (.int (p2.toInt8.toInt32)), .val (.int (p2 &&& (255 : Int32))), .val (.int (if (p2 &&& (255 : Int32)) = 10 then (1 : Int32) else 0))] [(.int (if (p2.toInt8.toInt32) = 10 then (1 : Int32) else 0))]))
    refine OwnDone.go (A := (T9.setTop (mkF m 96 #[.val (.int p1), .val (.int p2), .val (.int (2 : Int32)), .val (.ref b2), .val (.int (p2.toInt8.toInt32)), .val (.int (p2 &&& (255 : Int32))), .val (.int (if (p2 &&& (255 : Int32)) = 10 then (1 : Int32) else 0))] [(.int (if (p2 &&& (255 : Int32)) = 10 then (1 : Int32) else 0)), (.int (if (p2.toInt8.toInt32) = 10 then (1 : Int32) else 0))]))) (fun tQ kQ => ?_) ?_
    · refine XS.iload P9.here hx rfl (hb hby at_94) rfl ?_
      show Steps p.tables e below (T9.setTop (mkF m 96 #[.val (.int p1), .val (.int p2), .val (.int (2 : Int32)), .val (.ref b2), .val (.int (p2.toInt8.toInt32)), .val (.int (p2 &&& (255 : Int32))), .val (.int (if (p2 &&& (255 : Int32)) = 10 then (1 : Int32) else 0))] [(.int (if (p2 &&& (255 : Int32)) = 10 then (1 : Int32) else 0)), (.int (if (p2.toInt8.toInt32) = 10 then (1 : Int32) else 0))])) _
      exact kQ
    show OwnDone p e below _ (T9.setTop (mkF m 96 #[.val (.int p1), .val (.int p2), .val (.int (2 : Int32)), .val (.ref b2), .val (.int (p2.toInt8.toInt32)), .val (.int (p2 &&& (255 : Int32))), .val (.int (if (p2 &&& (255 : Int32)) = 10 then (1 : Int32) else 0))] [(.int (if (p2 &&& (255 : Int32)) = 10 then (1 : Int32) else 0)), (.int (if (p2.toInt8.toInt32) = 10 then (1 : Int32) else 0))]))
    refine OwnDone.go (A := (T9.setTop (mkF m 99 #[.val (.int p1), .val (.int p2), .val (.int (2 : Int32)), .val (.ref b2), .val (.int (p2.toInt8.toInt32)), .val (.int (p2 &&& (255 : Int32))), .val (.int (if (p2 &&& (255 : Int32)) = 10 then (1 : Int32) else 0))] []))) (fun tQ kQ => XS.icmpNo P9.here hx rfl (hb hby at_96) rfl (XT.ii_ne_f (own_asc p2)) kQ) ?_
    show OwnDone p e below _ (T9.setTop (mkF m 99 #[.val (.int p1), .val (.int p2), .val (.int (2 : Int32)), .val (.ref b2), .val (.int (p2.toInt8.toInt32)), .val (.int (p2 &&& (255 : Int32))), .val (.int (if (p2 &&& (255 : Int32)) = 10 then (1 : Int32) else 0))] []))
    refine OwnDone.go (A := (T9.setTop (mkF m 104 #[.val (.int p1), .val (.int p2), .val (.int (2 : Int32)), .val (.ref b2), .val (.int (p2.toInt8.toInt32)), .val (.int (p2 &&& (255 : Int32))), .val (.int (if (p2 &&& (255 : Int32)) = 10 then (1 : Int32) else 0))] [(.int (1 : Int32))]))) (fun tQ kQ => ?_) ?_
    · refine XS.iconst P9.here hx rfl (hb hby at_99) ?_
      show Steps p.tables e below (T9.setTop (mkF m 100 #[.val (.int p1), .val (.int p2), .val (.int (2 : Int32)), .val (.ref b2), .val (.int (p2.toInt8.toInt32)), .val (.int (p2 &&& (255 : Int32))), .val (.int (if (p2 &&& (255 : Int32)) = 10 then (1 : Int32) else 0))] [(.int (1 : Int32))])) _
      refine XS.goto P9.here hx rfl (pc0 := 100) (pc' := 104) rfl (hb hby at_100) (by decide) (by decide) ?_
      show Steps p.tables e below (T9.setTop (mkF m 104 #[.val (.int p1), .val (.int p2), .val (.int (2 : Int32)), .val (.ref b2), .val (.int (p2.toInt8.toInt32)), .val (.int (p2 &&& (255 : Int32))), .val (.int (if (p2 &&& (255 : Int32)) = 10 then (1 : Int32) else 0))] [(.int (1 : Int32))])) _
      exact kQ
    show OwnDone p e below _ (T9.setTop (mkF m 104 #[.val (.int p1), .val (.int p2), .val (.int (2 : Int32)), .val (.ref b2), .val (.int (p2.toInt8.toInt32)), .val (.int (p2 &&& (255 : Int32))), .val (.int (if (p2 &&& (255 : Int32)) = 10 then (1 : Int32) else 0))] [(.int (1 : Int32))]))
    refine own_retN C P9 (by simp) (z' := (1 : Int32)) (by decide) at_104 (by decide) (by decide) rfl
set_option maxRecDepth 65536 in
set_option maxHeartbeats 40000000 in
theorem comes_1 {Post : Tables → Env → Array Value → State → Outcome → State → Prop} (hpost : ∀ tb e args s v u, (limb_1_1.after args s (.returned v) u = true ∧ limb_1_2.after args s (.returned v) u = true ∧ True) → FrameEnd s (.returned v) u (Jvm.fieldLocs frame_1_writes args s ++ Jvm.arrayLocs frame_1_arrays args s ++ Jvm.staticLocs frame_1_statics s) 0 0 → Post tb e args s (.returned v) u) :
    ArmFor flags0 classFile x code maxLocals ret World_1 tables_1 room_1 Calls_1 rest_1 Pre_1 Post := by
  intro l hfl _ _ p e ha hc hk s m args below hf hA hF happ hP
  obtain ⟨hcalls, hrest, hpre⟩ := hP
  obtain ⟨-, -, -, hnamed, -, -, -, hat⟩ := (Spec.applies_iff hf).mp happ
  obtain ⟨hg, hn⟩ := and_e (Cond.before_iff.mp (show (Jvm.Cond.and given_1 narrow_1).before args s = true from hpre))
  obtain ⟨hcount, hg⟩ := and_e hg
  obtain ⟨w0, w1, rfl⟩ : ∃ w0 w1 : Value, args = #[w0, w1] := by
    have hs : args.size = 2 := by simpa [Cond.value, given_1] using hcount
    obtain ⟨L⟩ := args
    match L, hs with
    | [w0, w1], _ => exact ⟨w0, w1, rfl⟩
  have hw := fun d (hd : d ∈ tables_1) => atoms_spec (ws := Jvm.Cond.code x code maxLocals ret :: tables_1) hat d (List.mem_cons_of_mem _ hd)
  have hfit : Fit s := fun {y c} hc i hi => by
    obtain ⟨ha, rfl⟩ := Array.getElem?_eq_some_iff.mp hc
    have q := List.all_eq_true.mp ((Array.all_eq_true_iff_forall_mem.mp hF) _ (Array.getElem_mem ha)) i (List.mem_range.mpr hi)
    simpa [Array.getElem?_eq_getElem hi] using q
  obtain ⟨hg0, hg⟩ := and_e hg
  obtain ⟨i0, ei0⟩ := is_v hg0
  obtain rfl : w0 = (.int i0) := Option.some.inj ei0
  obtain ⟨i1, ei1⟩ := is_v hg
  obtain rfl : w1 = (.int i1) := Option.some.inj ei1
  obtain ⟨n0, hn⟩ := and_e hn
  obtain ⟨n1, hn⟩ := and_e hn
  obtain ⟨n2, hn⟩ := and_e hn
  obtain ⟨n3, hn⟩ := and_e hn
  obtain ⟨n4, hn⟩ := and_e hn
  obtain ⟨b0, ev0⟩ := exa_v n0
  have E0 := Exa.start ev0 n0
  have S0 := Sta.start ev0 (Or.inr ⟨(hw _ (List.mem_of_getElem? (i := 2) rfl)), (hw _ (List.mem_of_getElem? (i := 3) rfl))⟩)
  have F0 := own_fstart ev0 n1
  obtain ⟨b1, ev1⟩ := exa_v n4
  have E1 := Exa.start ev1 n4
  have S1 := Sta.start ev1 (Or.inr ⟨(hw _ (List.mem_of_getElem? (i := 2) rfl)), (hw _ (List.mem_of_getElem? (i := 14) rfl))⟩)
  have F1 := own_fstart ev1 hn
  obtain ⟨b2, ev2⟩ := exa_v n2
  have E2 := Exa.start ev2 n2
  have S2 := Sta.start ev2 (Or.inr ⟨(hw _ (List.mem_of_getElem? (i := 2) rfl)), (hw _ (List.mem_of_getElem? (i := 12) rfl))⟩)
  have F2 := own_fstart ev2 n3
  obtain ⟨n, o, h1, h2, h3, _, L, rfl, ⟨rfl, -, N⟩, hq⟩ := rm0 l s _ hw i0 i1 s.heap ⟨Nat.le_refl _, fun _ _ q => q⟩ b0 b1 b2 S0 E0 F0 S1 E1 F1 S2 E2 F2 tables_1 p e ha hc hk s m _ below hf ((Spec.applies_iff_loose hf).mp happ).1 ⟨rfl, State.Warmed39.refl s, rfl⟩ trivial
  refine ⟨n, _, h1, h2, h3, hpost _ _ _ _ _ _ ⟨Cond.after_iff.mpr rfl, Cond.after_iff.mpr (eq_i res_at (Term.int_eval (1)) rfl), trivial⟩ ⟨hq.1, hq.2.1, (hq.2.2.sift fun y hy => Or.inr ((N y hy).elim (fun q => (nomatch q)) id)).mono (by decide) (by decide)⟩⟩
theorem main_1_1 : Claimed_1_1 := comes_1 fun _ _ _ _ _ _ h hF => ⟨h.1, hF⟩
theorem main_1_2 : Claimed_1_2 := comes_1 fun _ _ _ _ _ _ h hF => ⟨h.2.1, hF⟩
end Jvm.Pilot.@@N@@
namespace Jvm.Pilot.@@N@@
open Jvm Jvm.ClassFile Sem Op Lib Jvm.Free Jvm.Stand Jvm.Pilot.@@N@@.Jvm.D
/-! MADE BY PROGRAM (witnessworld.py) out of the Statement's table words and the real class files: 12 classes; the members and pool entries that the words name. The judged class is class 1, her method 1. -/
namespace start1
open Jvm.ClassFile
def u (s : String) : CpInfo := .utf8 (stringToUtf16 s)
/-- a pool by its gaps: so many unusable entries, then the entry; so many at the end -/
def gap : Nat → List CpInfo → List CpInfo
  | 0, r => r
  | n + 1, r => .unusable :: gap n r
def poolList (es : List (Nat × CpInfo)) (last : Nat) : List CpInfo := es.foldr (fun e r => gap e.1 (e.2 :: r)) (gap last [])
def pool (es : List (Nat × CpInfo)) (last : Nat) : Array CpInfo := ⟨poolList es last⟩
def fileOf (pool : Array CpInfo) (this : Nat) (attrs : Array Attribute := #[]) (ms : Array MethodInfo := #[]) (fl : Nat := 33) (sup : Nat := 0) (ifs : Array Nat := #[]) (fds : Array FieldInfo := #[]) : ClassFile where
  minorVersion := 0
  majorVersion := 65
  constantPool := pool
  accessFlags := fl
  thisClass := this
  superClass := sup
  interfaces := ifs
  fields := fds
  methods := ms
  attributes := attrs
def plain (name : String) (sup : Option ClassId) : Class where
  name := name
  kind := .ordinary
  loader := none
  accessFlags := 33
  super := sup
  interfaces := #[]
  cf := none
  fields := #[]
  methods := #[]
  instanceTypes := #[]
  staticTypes := #[]
  resolved := #[]
  callSites := []
  init := .initialized
  statics := none
  mirror := none

def pool0 : Array CpInfo := pool [(5, u "<init>"), (0, u "()V"), (1, .class_ 10), (1, u "java/lang/Object")] 113

def k0m0 : Method := { name := "<init>", desc := "()V", sig := { parameters := [], returnType := none }, accessFlags := 1, code := none }
/-- java/lang/Object -/
def k0 : Class := { plain "java/lang/Object" none with
  accessFlags := 33
  interfaces := #[]
  cf := some (fileOf pool0 8 #[] #[{ accessFlags := 1, nameIndex := 5, descriptorIndex := 6, attributes := #[] }] 33 0 #[] #[])
  fields := #[]
  methods := #[k0m0]
  instanceTypes := #[]
  staticTypes := #[]
  resolved := Array.replicate 124 none
  statics := none }

def pool1 : Array CpInfo := pool [(2, .class_ 4), (1, u "java/lang/Object"), (0, u "<init>"), (0, u "()V"), (0, .integer 2147483647), (0, .fieldref 9 10), (0, .class_ 11), (0, .nameAndType 12 13), (0, u "com/example/glasshouse/glasshouse/model/CodePage"), (0, u "IBM037"), (0, u "Lcom/example/glasshouse/glasshouse/model/CodePage;"), (0, .fieldref 9 15), (0, .nameAndType 16 13), (0, u "IBM1047"), (0, .fieldref 9 18), (0, .nameAndType 19 13), (0, u "ASCII"), (0, .methodref 9 21), (0, .nameAndType 22 23), (0, u "isLineEnd"), (0, u "(B)Z"), (0, .class_ 25), (0, u "com/example/glasshouse/glasshouse/model/CodePageIsLineEndPinLaw"), (2, u "law"), (0, u "(II)Z")] 3

def k1m0 : Method := { name := "<init>", desc := "()V", sig := { parameters := [], returnType := none }, accessFlags := 2, code := none }
def k1c1 : Code := { maxStack := 2, maxLocals := 7, code := code, exceptionTable := #[], attributes := #[] }
def k1m1 : Method := { name := "law", desc := "(II)Z", sig := { parameters := [.int, .int], returnType := some .boolean }, accessFlags := 9, code := some k1c1 }
/-- com/example/glasshouse/glasshouse/model/CodePageIsLineEndPinLaw -/
def k1 : Class := { plain "com/example/glasshouse/glasshouse/model/CodePageIsLineEndPinLaw" (some 0) with
  accessFlags := 49
  interfaces := #[]
  cf := some (fileOf pool1 24 #[] #[{ accessFlags := 2, nameIndex := 5, descriptorIndex := 6, attributes := #[] }, { accessFlags := 9, nameIndex := 28, descriptorIndex := 29, attributes := #[] }] 49 2 #[] #[])
  fields := #[]
  methods := #[k1m0, k1m1]
  instanceTypes := #[]
  staticTypes := #[]
  resolved := Array.replicate 33 none
  statics := none }

def pool2 : Array CpInfo := pool [(1, .class_ 2), (0, u "java/lang/constant/Constable"), (0, .class_ 4), (0, u "java/lang/Object")] 6

/-- java/lang/constant/Constable -/
def k2 : Class := { plain "java/lang/constant/Constable" (some 0) with
  accessFlags := 1537
  interfaces := #[]
  cf := some (fileOf pool2 1 #[] #[] 1537 3 #[] #[])
  fields := #[]
  methods := #[]
  instanceTypes := #[]
  staticTypes := #[]
  resolved := Array.replicate 11 none
  statics := none }

def pool3 : Array CpInfo := pool [(1, .class_ 2), (0, u "java/lang/Comparable"), (0, .class_ 4), (0, u "java/lang/Object")] 7

/-- java/lang/Comparable -/
def k3 : Class := { plain "java/lang/Comparable" (some 0) with
  accessFlags := 1537
  interfaces := #[]
  cf := some (fileOf pool3 1 #[] #[] 1537 3 #[] #[])
  fields := #[]
  methods := #[]
  instanceTypes := #[]
  staticTypes := #[]
  resolved := Array.replicate 12 none
  statics := none }

def pool4 : Array CpInfo := pool [(1, .class_ 2), (0, u "java/io/Serializable"), (0, .class_ 4), (0, u "java/lang/Object")] 2

/-- java/io/Serializable -/
def k4 : Class := { plain "java/io/Serializable" (some 0) with
  accessFlags := 1537
  interfaces := #[]
  cf := some (fileOf pool4 1 #[] #[] 1537 3 #[] #[])
  fields := #[]
  methods := #[]
  instanceTypes := #[]
  staticTypes := #[]
  resolved := Array.replicate 7 none
  statics := none }

def pool5 : Array CpInfo := pool [(2, .class_ 4), (1, u "java/lang/Enum"), (0, u "name"), (0, u "Ljava/lang/String;"), (2, u "ordinal"), (0, u "I"), (1, .class_ 14), (1, u "java/lang/Object"), (4, u "hash"), (86, .class_ 108), (1, u "java/lang/Enum$EnumDesc"), (2, .class_ 112), (0, u "java/lang/constant/Constable"), (0, .class_ 114), (0, u "java/lang/Comparable"), (0, .class_ 116), (0, u "java/io/Serializable")] 87

/-- java/lang/Enum -/
def k5 : Class := { plain "java/lang/Enum" (some 0) with
  accessFlags := 1057
  interfaces := #[2, 3, 4]
  cf := some (fileOf pool5 2 #[.nestMembers #[106]] #[] 1057 12 #[111, 113, 115] #[{ accessFlags := 18, nameIndex := 5, descriptorIndex := 6, attributes := #[] }, { accessFlags := 18, nameIndex := 9, descriptorIndex := 10, attributes := #[] }, { accessFlags := 2, nameIndex := 19, descriptorIndex := 10, attributes := #[] }])
  fields := #[{ name := "name", type := (.object "java/lang/String"), accessFlags := 18, slot := 0, constantValue := 0 }, { name := "ordinal", type := .int, accessFlags := 18, slot := 1, constantValue := 0 }, { name := "hash", type := .int, accessFlags := 2, slot := 2, constantValue := 0 }]
  methods := #[]
  instanceTypes := #[(.object "java/lang/String"), .int, .int]
  staticTypes := #[]
  resolved := Array.replicate 204 none
  statics := none }

def pool6 : Array CpInfo := pool [(1, .class_ 2), (0, u "com/example/glasshouse/glasshouse/model/CodePage"), (2, u "IBM037"), (0, u "Lcom/example/glasshouse/glasshouse/model/CodePage;"), (2, u "IBM1047"), (2, u "ASCII"), (2, u "$VALUES"), (0, u "[Lcom/example/glasshouse/glasshouse/model/CodePage;"), (6, .class_ 25), (1, u "java/lang/Enum"), (8, u "label"), (0, u "Ljava/lang/String;"), (2, u "charsetName"), (0, .fieldref 1 40), (0, .nameAndType 41 42), (0, u "ebcdic"), (0, u "Z"), (51, u "EBCDIC_BLANK"), (0, u "B"), (2, u "EBCDIC_NEW_LINE"), (1, u "EBCDIC_LINE_FEED"), (16, u "isLineEnd"), (0, u "(B)Z")] 27

def k6c0 : Code := { maxStack := 2, maxLocals := 2, code := prog_132_method_8_code, exceptionTable := #[], attributes := #[] }
def k6m0 : Method := { name := "isLineEnd", desc := "(B)Z", sig := { parameters := [.byte], returnType := some .boolean }, accessFlags := 1, code := some k6c0 }
/-- com/example/glasshouse/glasshouse/model/CodePage -/
def k6 : Class := { plain "com/example/glasshouse/glasshouse/model/CodePage" (some 5) with
  accessFlags := 16433
  interfaces := #[]
  cf := some (fileOf pool6 1 #[] #[{ accessFlags := 1, nameIndex := 117, descriptorIndex := 118, attributes := #[] }] 16433 23 #[] #[{ accessFlags := 16409, nameIndex := 5, descriptorIndex := 6, attributes := #[] }, { accessFlags := 16409, nameIndex := 9, descriptorIndex := 6, attributes := #[] }, { accessFlags := 16409, nameIndex := 12, descriptorIndex := 6, attributes := #[] }, { accessFlags := 26, nameIndex := 94, descriptorIndex := 95, attributes := #[] }, { accessFlags := 26, nameIndex := 98, descriptorIndex := 95, attributes := #[] }, { accessFlags := 26, nameIndex := 100, descriptorIndex := 95, attributes := #[] }, { accessFlags := 18, nameIndex := 34, descriptorIndex := 35, attributes := #[] }, { accessFlags := 18, nameIndex := 38, descriptorIndex := 35, attributes := #[] }, { accessFlags := 18, nameIndex := 41, descriptorIndex := 42, attributes := #[] }, { accessFlags := 4122, nameIndex := 15, descriptorIndex := 16, attributes := #[] }])
  fields := #[{ name := "IBM037", type := (.object "com/example/glasshouse/glasshouse/model/CodePage"), accessFlags := 16409, slot := 0, constantValue := 0 }, { name := "IBM1047", type := (.object "com/example/glasshouse/glasshouse/model/CodePage"), accessFlags := 16409, slot := 1, constantValue := 0 }, { name := "ASCII", type := (.object "com/example/glasshouse/glasshouse/model/CodePage"), accessFlags := 16409, slot := 2, constantValue := 0 }, { name := "EBCDIC_BLANK", type := .byte, accessFlags := 26, slot := 3, constantValue := 0 }, { name := "EBCDIC_NEW_LINE", type := .byte, accessFlags := 26, slot := 4, constantValue := 0 }, { name := "EBCDIC_LINE_FEED", type := .byte, accessFlags := 26, slot := 5, constantValue := 0 }, { name := "label", type := (.object "java/lang/String"), accessFlags := 18, slot := 3, constantValue := 0 }, { name := "charsetName", type := (.object "java/lang/String"), accessFlags := 18, slot := 4, constantValue := 0 }, { name := "ebcdic", type := .boolean, accessFlags := 18, slot := 5, constantValue := 0 }, { name := "$VALUES", type := (.array (.object "com/example/glasshouse/glasshouse/model/CodePage")), accessFlags := 4122, slot := 6, constantValue := 0 }]
  methods := #[k6m0]
  instanceTypes := #[(.object "java/lang/String"), .int, .int, (.object "java/lang/String"), (.object "java/lang/String"), .boolean]
  staticTypes := #[(.object "com/example/glasshouse/glasshouse/model/CodePage"), (.object "com/example/glasshouse/glasshouse/model/CodePage"), (.object "com/example/glasshouse/glasshouse/model/CodePage"), .byte, .byte, .byte, (.array (.object "com/example/glasshouse/glasshouse/model/CodePage"))]
  resolved := Array.replicate 146 none
  statics := some 0 }

def pool7 : Array CpInfo := pool [(1, u "java/lang/Cloneable"), (0, .class_ 1), (0, u "java/lang/Object"), (0, .class_ 3)] 3

/-- java/lang/Cloneable -/
def k7 : Class := { plain "java/lang/Cloneable" (some 0) with
  accessFlags := 1537
  interfaces := #[]
  cf := some (fileOf pool7 2 #[] #[] 1537 4 #[] #[])
  fields := #[]
  methods := #[]
  instanceTypes := #[]
  staticTypes := #[]
  resolved := Array.replicate 8 none
  statics := none }

/-- the primitive byte -/
def k8 : Class := { plain "byte" none with kind := .primitive 'B', accessFlags := 0x411 }
/-- [B -/
def k9 : Class := { plain "[B" (some 0) with kind := .array 8 .byte, interfaces := #[7, 4], accessFlags := 1041 }

/-- the primitive int -/
def k10 : Class := { plain "int" none with kind := .primitive 'I', accessFlags := 0x411 }
/-- [I -/
def k11 : Class := { plain "[I" (some 0) with kind := .array 10 .int, interfaces := #[7, 4], accessFlags := 1041 }

def heap : Heap := #[{ cls := 6, slots := #[.ref 1, .ref 2, .ref 3, .int 0, .int 0, .int 0, .null], vm := .statics 6 },
  { cls := 6, slots := #[.null, .int 0, .int 0, .null, .null, .int 1], vm := .none },
  { cls := 6, slots := #[.null, .int 1, .int 0, .null, .null, .int 1], vm := .none },
  { cls := 6, slots := #[.null, .int 2, .int 0, .null, .null, .int 0], vm := .none }]
def classes : Array Class := #[k0, k1, k2, k3, k4, k5, k6, k7, k8, k9, k10, k11]
def interned : List (Array UInt16 × Addr) := []
def slotsUsed : Nat := 25
def theMethod : MethodId := ⟨1, 1⟩
def args0 : Array Value := #[.int 5, .int 7]
def aboutOver (below : List Frame) : State where
  vm := { classes := classes, interned := interned.toArray }
  heap := heap
  slotsUsed := slotsUsed
  threads := #[{ frames := .invoking theMethod args0 :: below }]
def below0 : List Frame := [.native { method := ⟨0, 0⟩, args := #[] }]
def about1 : State := aboutOver below0
def p0 : Program := .bare "" "" ""
def e0 : Env := launch0.env 0 0 0
theorem w_frames : about1.frames = Frame.invoking theMethod args0 :: below0 := rfl
set_option maxRecDepth 65536 in
theorem w_args : argsFit about1.vm theMethod args0 = true := by decide +kernel
set_option maxRecDepth 65536 in
theorem w_heap : heapFits about1 = true := by decide +kernel
set_option maxRecDepth 65536 in
theorem w_runnable : about1.curStatus? = some .runnable := by decide +kernel
set_option maxRecDepth 65536 in
theorem w_alone : about1.alone = true := by decide +kernel
set_option maxRecDepth 65536 in
theorem w_named : about1.methodNamed? x = some theMethod := by decide +kernel
set_option maxRecDepth 65536 in
theorem w_hears : about1.hears theMethod below0 = true := by decide +kernel
set_option maxRecDepth 65536 in
theorem w_ripe : about1.ripe theMethod args0 below0 = true := by decide +kernel
theorem w_running : about1.status = .running := rfl
set_option maxRecDepth 65536 in
theorem w_room : about1.hasRoom e0.platform room_1 = true :=
  launch0.hasRoom_least _ room_1 (by decide +kernel) (by decide +kernel) (by decide +kernel) (by decide +kernel) (by decide +kernel) (by decide +kernel)
theorem allAtoms_all (ts : List Jvm.Cond) (a : Array Jvm.Value) (st : Jvm.State) : (allAtoms ts).before a st = ts.all (fun c => c.before a st) := by
  induction ts with
  | nil => rfl
  | cons c t ih =>
    show (Jvm.Cond.and c (allAtoms t)).before a st = _
    rw [Jvm.Cond.before_and, ih, List.all_cons]
def words1 : List Jvm.Cond := Jvm.Cond.code x code maxLocals ret :: tables_1
/-- a 'code' word, met by the world's own term for the bytes: nothing is compared byte by byte -/
theorem code_word {y : MethodName} {bytes : ByteArray} {mx : Nat} {rt : Option FieldType} {a : Array Value} {s : State} {m : MethodId} {meth : Method} {c : Code} (h1 : s.methodNamed? y = some m) (h2 : s.vm.method? m = some meth) (h3 : meth.code = some c) (h4 : c.code = bytes)
    (h5 : (c.maxLocals == mx && c.exceptionTable.isEmpty && decide (c.maxStack ≤ mostOperands) && decide (meth.sig.returnType = rt) && !meth.locks && decide (parseMethodDescriptor y.desc = some meth.sig)) = true) : (Jvm.Cond.code y bytes mx rt).before a s = true := by
  simp only [Bool.and_eq_true, beq_iff_eq, Bool.not_eq_true', decide_eq_true_eq] at h5
  obtain ⟨⟨⟨⟨⟨g1, g2⟩, g3⟩, g4⟩, g5⟩, g6⟩ := h5
  simp [Cond.before, Cond.holds, Cond.value, h1, h2, h3, h4, g1, g2, g3, g4, g5, g6]
def isCode : Jvm.Cond → Bool
  | .code _ _ _ _ => true
  | _ => false
theorem all_split {L : List Jvm.Cond} {P : Jvm.Cond → Bool} (h1 : L.all (fun c => isCode c || P c) = true) (h2 : ∀ c ∈ L.filter isCode, P c = true) : L.all P = true := by
  refine List.all_eq_true.mpr fun c hc => ?_
  have h := List.all_eq_true.mp h1 c hc
  rcases Bool.eq_false_or_eq_true (isCode c) with hi | hi
  · exact h2 c (List.mem_filter.mpr ⟨hc, hi⟩)
  · simpa [hi] using h
set_option maxRecDepth 65536 in
theorem w_c0 : (Jvm.Cond.code x code maxLocals ret).before args0 about1 = true := code_word (m := ⟨1, 1⟩) (meth := k1m1) (c := k1c1) (by decide +kernel) rfl rfl rfl (by decide +kernel)
set_option maxRecDepth 65536 in
theorem w_c1 : (Jvm.Cond.code ({ cls := "com/example/glasshouse/glasshouse/model/CodePage", name := "isLineEnd", desc := "(B)Z" } : Jvm.MethodName) prog_132_method_8_code (2 : Nat) (Option.some Jvm.ClassFile.FieldType.boolean)).before args0 about1 = true := code_word (m := ⟨6, 0⟩) (meth := k6m0) (c := k6c0) (by decide +kernel) rfl rfl rfl (by decide +kernel)
def codes1 : List Jvm.Cond := [Jvm.Cond.code x code maxLocals ret, Jvm.Cond.code ({ cls := "com/example/glasshouse/glasshouse/model/CodePage", name := "isLineEnd", desc := "(B)Z" } : Jvm.MethodName) prog_132_method_8_code (2 : Nat) (Option.some Jvm.ClassFile.FieldType.boolean)]
set_option maxRecDepth 65536 in
theorem codes_eq : words1.filter isCode = codes1 := rfl
theorem w_codes : ∀ c ∈ words1.filter isCode, c.before args0 about1 = true := by
  rw [codes_eq]
  intro c hc
  simp only [codes1, List.mem_cons, List.not_mem_nil, or_false] at hc
  rcases hc with rfl | rfl
  · exact w_c0
  · exact w_c1
set_option maxRecDepth 65536 in
theorem w_t1 : words1.all (fun c => isCode c || c.before args0 about1) = true := by decide +kernel
theorem w_tables : (allAtoms (Jvm.Cond.code x code maxLocals ret :: tables_1)).before args0 about1 = true := by
  rw [allAtoms_all]
  show words1.all (fun c => c.before args0 about1) = true
  refine all_split ?_ w_codes
  rw [w_t1]
set_option maxRecDepth 65536 in
theorem w_case : (Jvm.Cond.and given_1 narrow_1).before args0 about1 = true := by decide +kernel
theorem w_applies : (headSpec (Jvm.Cond.code x code maxLocals ret :: tables_1) room_1).applies x e0.platform about1 = true :=
  (Spec.applies_iff w_frames).mpr ⟨w_running, w_runnable, w_alone, w_named, w_hears, w_ripe, w_room, w_tables⟩
theorem atStart : AtStart classFile x code maxLocals ret World_1 tables_1 room_1 Calls_1 rest_1 Pre_1 launch0 p0 e0 about1 theMethod args0 below0 :=
  ⟨lists_1, trivial, launch0.admits_env _ _ _, launch0.least_env, fairChoices_fair.cas, fairChoices_fair.clock, w_frames, w_args, w_heap, w_applies, trivial, trivial, w_case⟩
end start1
theorem witness_1 : WitnessClaimed_1 := ⟨start1.p0, start1.e0, start1.about1, start1.theMethod, start1.args0, start1.below0, start1.atStart⟩
end Jvm.Pilot.@@N@@
