import JvmDerived
import JvmDerived.Pilot.@@N@@Statement
import JvmDerived.Pilot.@@N@@Code
set_option linter.unusedVariables false
set_option linter.unusedSimpArgs false
namespace Jvm.Pilot.@@N@@
open Jvm Jvm.ClassFile Sem Op Lib Jvm.Free Jvm.Stand Jvm.LawKit Jvm.RoadKit Bundle Jvm.Pilot.@@N@@.Jvm.D
section Own
variable {p : Program} {l : Launch} {e : Env} {R : Room} {s : State} {m : MethodId} {args : Array Value} {below : List Frame} {meth : Method} {c : Code} {T : State} {cells slots : Nat} {Z : State} {a0 : Array Value} {h h' h0 : Heap} {ws ws' : List Addr}
  {own nm : String} {bytes : ByteArray} {maxL : Nat} {rt : Option FieldType} {W : State → Outcome → Prop} {pc : Nat} {Ls : Array Slot} {rest : List Value}
/-- the run from A ends as W says -/
def OwnDone (p : Program) (e : Env) (below : List Frame) (W : State → Outcome → Prop) (A : State) : Prop :=
  ∃ s₂ o, Steps p.tables e below A s₂ ∧ s₂.status = .running ∧ Ended s₂ below o ∧ W s₂ o
theorem OwnDone.go {A B : State} (h : ∀ t, Steps p.tables e below A t → Steps p.tables e below B t) (k : OwnDone p e below W A) : OwnDone p e below W B := by
  obtain ⟨s₂, o, h1, h2⟩ := k
  exact ⟨s₂, o, h _ h1, h2⟩
/-- how a body ends: what it returns and leaves (Q), and that it wrote nothing older than its start but the objects ws -/
def OwnEnds (s Z : State) (ws : List Addr) (h0 : Heap) (Q : Option Value → Heap → Prop) (k n : Nat) (s₂ : State) (o : Outcome) : Prop :=
  ∃ v L, o = .returned v ∧ (Q v s₂.heap ∧ Keep h0 s₂.heap ws ∧ ∀ y ∈ L, y.base ∈ ws ∨ h0.size ≤ y.base) ∧ FrameEnd s o s₂ L k n
/-- the surroundings of a walk -/
def OwnCx (p : Program) (Z s : State) (m : MethodId) (meth : Method) (c : Code) (own nm : String) (bytes : ByteArray) (maxL : Nat) (rt : Option FieldType) : Prop :=
  p.tables.exec = Jvm.exec ∧ Z.Warmed39 s.vm ∧ s.vm.findClass own = some m.cls ∧ meth.name = nm ∧ c.code = bytes ∧ c.maxLocals = maxL ∧ meth.sig.returnType = rt ∧ meth.locks = false
/-- where the walk stands -/
def OwnPos (p : Program) (l : Launch) (e : Env) (R : Room) (s : State) (m : MethodId) (args : Array Value) (below : List Frame) (meth : Method) (c : Code) (Z : State) (ws : List Addr) (h0 : Heap) (T : State) (h : Heap) (cells slots : Nat) : Prop :=
  ∃ locs, Stand p l e R s m args below meth c T locs cells slots ∧ T.heap = h ∧ s.heap = h0 ∧ (∀ y ∈ locs, y.base ∈ ws ∨ h0.size ≤ y.base) ∧ Ext Z.heap h0 ∧ ∀ a ∈ ws, Z.heap.size ≤ a
theorem OwnPos.here (P : OwnPos p l e R s m args below meth c Z ws h0 T h cells slots) : At T m c below := by
  obtain ⟨_, X, _⟩ := P; exact X.here
theorem OwnPos.keep (P : OwnPos p l e R s m args below meth c Z ws h0 T h cells slots) : Keep h0 h ws := by
  obtain ⟨locs, X, rfl, rfl, N, -, -⟩ := P
  have hs := X.same
  have far : ∀ (x : Addr) (c : Cell), s.heap[x]? = some c → x ∉ ws → ∀ i, (⟨x, i⟩ : Loc) ∉ locs := fun x c hx hn i hi => by
    rcases N _ hi with q | q
    · exact hn q
    · exact absurd (Array.getElem?_eq_some_iff.mp hx).1 (Nat.not_lt.mpr q)
  refine ⟨hs.2.1, fun x c hx hn => ?_, fun x c hx => ?_⟩
  · obtain ⟨c', h1, h2, h3, h4⟩ := hs.2.2.2.2.2 x c hx
    have e1 : c'.slots = c.slots := by
      apply Array.ext_getElem?
      intro i
      exact h4 i (far x c hx hn i)
    have e2 : c' = c := by rw [h2, e1]
    exact e2 ▸ h1
  · obtain ⟨c', h1, h2, h3, h4⟩ := hs.2.2.2.2.2 x c hx
    exact ⟨c', h1, by rw [h2], by rw [h2], h3⟩
theorem OwnPos.old (P : OwnPos p l e R s m args below meth c Z ws h0 T h cells slots) : Ext Z.heap h := by
  have K := P.keep
  obtain ⟨locs, X, eT, e0, N, E0, G0⟩ := P
  refine ⟨Nat.le_trans E0.1 K.1, fun a c ha => K.2.1 a c (E0.2 a c ha) fun q => ?_⟩
  exact absurd (Array.getElem?_eq_some_iff.mp ha).1 (Nat.not_lt.mpr (G0 a q))
theorem OwnPos.ge (P : OwnPos p l e R s m args below meth c Z ws h0 T h cells slots) : Z.heap.size ≤ h.size := P.old.1
/-- a method's contract -/
def OwnMeets (l : Launch) (y : MethodName) (bytes : ByteArray) (maxL : Nat) (rt : Option FieldType) (rm : Room) (Z : State) (ws : List Addr) (as : Array Value) (h0 : Heap) (Q : Option Value → Heap → Prop) : Prop :=
  ∀ wz, MetFree l y (head1 (Cond.code y bytes maxL rt :: wz) rm) (fun a U => a = as ∧ Z.Warmed39 U.vm ∧ U.heap = h0) (fun _ _ _ _ _ => True) (fun _ U o U' => ∃ v L, o = .returned v ∧ (Q v U'.heap ∧ Keep h0 U'.heap ws ∧ ∀ y ∈ L, y.base ∈ ws ∨ h0.size ≤ y.base) ∧ FrameEnd U o U' L rm.cells rm.slots)
theorem OwnMeets.of {y : MethodName} {rm : Room} {as : Array Value} {Q : Option Value → Heap → Prop} (hp : plainFor y = true) (hE : Ext Z.heap h0) (hG : ∀ a ∈ ws, Z.heap.size ≤ a)
    (body : ∀ p e s m below meth c T, OwnCx p Z s m meth c y.cls y.name bytes maxL rt → OwnPos p l e rm s m as below meth c Z ws h0 T h0 0 0 → OwnDone p e below (OwnEnds s Z ws h0 Q rm.cells rm.slots) (T.setTop (entryFrame m as maxL))) :
    OwnMeets l y bytes maxL rt rm Z ws as h0 Q := by
  intro wz
  refine MetFree.of_bodySF hp hisR ?_
  intro p e s m args below meth c s₁ Bd hml hP hK
  obtain ⟨rfl, hZ, hh⟩ := hP
  exact body p e s m below meth c s₁ ⟨Bd.exec, hZ, findClass_of_methodNamed Bd.named, (name_of_methodNamed Bd.named Bd.method).1, Bd.bytes, hml, Bd.returns, Bd.notSynchronized⟩ ⟨_, Stand.of_body Bd, by rw [← hh, Bd.state]; rfl, hh, fun _ q => (nomatch q), hE, hG⟩

/-! the returns -/
theorem own_retN {Q : Option Value → Heap → Prop} {k n : Nat} {t : FieldType} {z z' : Int32} (C : OwnCx p Z s m meth c own nm bytes maxL (some t)) (P : OwnPos p l e R s m args below meth c Z ws h0 T h cells slots)
    (ht : t = .boolean ∨ t = .byte ∨ t = .char ∨ t = .short) (hz : nar t z = z') (hd : decode bytes pc = .ok (.ireturn, 1)) (hk : cells ≤ k) (hn : slots ≤ n) (hQ : Q (some (.int z')) h) :
    OwnDone p e below (OwnEnds s Z ws h0 Q k n) (T.setTop (mkF m pc Ls (.int z :: rest))) := by
  have kp := P.keep
  obtain ⟨hx, hZ, hown, hnm, hby, hml, hret, hlk⟩ := C
  obtain ⟨locs, X, eT, e0, N, E0, G0⟩ := P
  subst eT
  subst hz
  obtain ⟨fs, hr, hrun, hended, hW, hsame⟩ := X.leave (v := some (.int (nar t z))) (fun h => by rw [hret] at h; cases h) hlk
  exact ⟨_, _, Jvm.RoadKit.retN X hx hret ht (hb hby hd) hr, hrun, hended, _, _, rfl, ⟨hQ, kp, N⟩, ⟨_, rfl⟩, hW, hsame.mono hk hn⟩

theorem own_retI {Q : Option Value → Heap → Prop} {k n : Nat} {z : Int32} (C : OwnCx p Z s m meth c own nm bytes maxL (some .int)) (P : OwnPos p l e R s m args below meth c Z ws h0 T h cells slots)
    (hd : decode bytes pc = .ok (.ireturn, 1)) (hk : cells ≤ k) (hn : slots ≤ n) (hQ : Q (some (.int z)) h) :
    OwnDone p e below (OwnEnds s Z ws h0 Q k n) (T.setTop (mkF m pc Ls (.int z :: rest))) := by
  have kp := P.keep
  obtain ⟨hx, hZ, hown, hnm, hby, hml, hret, hlk⟩ := C
  obtain ⟨locs, X, eT, e0, N, E0, G0⟩ := P
  subst eT
  obtain ⟨fs, hr, hrun, hended, hW, hsame⟩ := X.leave (v := some (.int z)) (fun h => by rw [hret] at h; cases h) hlk
  exact ⟨_, _, retOut X hx hret rfl (Or.inl ⟨rfl, Or.inl rfl, z, rfl⟩) (hb hby hd) hr, hrun, hended, _, _, rfl, ⟨hQ, kp, N⟩, ⟨_, rfl⟩, hW, hsame.mono hk hn⟩

theorem own_retJ {Q : Option Value → Heap → Prop} {k n : Nat} {z : Int64} (C : OwnCx p Z s m meth c own nm bytes maxL (some .long)) (P : OwnPos p l e R s m args below meth c Z ws h0 T h cells slots)
    (hd : decode bytes pc = .ok (.lreturn, 1)) (hk : cells ≤ k) (hn : slots ≤ n) (hQ : Q (some (.long z)) h) :
    OwnDone p e below (OwnEnds s Z ws h0 Q k n) (T.setTop (mkF m pc Ls (.long z :: rest))) := by
  have kp := P.keep
  obtain ⟨hx, hZ, hown, hnm, hby, hml, hret, hlk⟩ := C
  obtain ⟨locs, X, eT, e0, N, E0, G0⟩ := P
  subst eT
  obtain ⟨fs, hr, hrun, hended, hW, hsame⟩ := X.leave (v := some (.long z)) (fun h => by rw [hret] at h; cases h) hlk
  exact ⟨_, _, retOut X hx hret rfl (Or.inr (Or.inl ⟨rfl, rfl, z, rfl⟩)) (hb hby hd) hr, hrun, hended, _, _, rfl, ⟨hQ, kp, N⟩, ⟨_, rfl⟩, hW, hsame.mono hk hn⟩

theorem own_retA {Q : Option Value → Heap → Prop} {k n : Nat} {w : Value} {t : FieldType} (C : OwnCx p Z s m meth c own nm bytes maxL (some t)) (P : OwnPos p l e R s m args below meth c Z ws h0 T h cells slots)
    (ht : t.isReference = true) (hw : w.isRef = true) (hd : decode bytes pc = .ok (.areturn, 1)) (hk : cells ≤ k) (hn : slots ≤ n) (hQ : Q (some w) h) :
    OwnDone p e below (OwnEnds s Z ws h0 Q k n) (T.setTop (mkF m pc Ls (w :: rest))) := by
  have kp := P.keep
  obtain ⟨hx, hZ, hown, hnm, hby, hml, hret, hlk⟩ := C
  obtain ⟨locs, X, eT, e0, N, E0, G0⟩ := P
  subst eT
  obtain ⟨fs, hr, hrun, hended, hW, hsame⟩ := X.leave (v := some w) (fun h => by rw [hret] at h; cases h) hlk
  have hnr : narrow t w = w := by cases t <;> first | (cases ht; done) | rfl
  exact ⟨_, _, retOut X hx hret hnr (Or.inr (Or.inr (Or.inr (Or.inr ⟨rfl, ht, hw⟩)))) (hb hby hd) hr, hrun, hended, _, _, rfl, ⟨hQ, kp, N⟩, ⟨_, rfl⟩, hW, hsame.mono hk hn⟩

theorem own_retV {Q : Option Value → Heap → Prop} {k n : Nat}  (C : OwnCx p Z s m meth c own nm bytes maxL none) (P : OwnPos p l e R s m args below meth c Z ws h0 T h cells slots)
    (hd : decode bytes pc = .ok (.return_, 1)) (hk : cells ≤ k) (hn : slots ≤ n) (hQ : Q (none) h) :
    OwnDone p e below (OwnEnds s Z ws h0 Q k n) (T.setTop (mkF m pc Ls [])) := by
  have kp := P.keep
  obtain ⟨hx, hZ, hown, hnm, hby, hml, hret, hlk⟩ := C
  obtain ⟨locs, X, eT, e0, N, E0, G0⟩ := P
  subst eT
  obtain ⟨fs, hr, hrun, hended, hW, hsame⟩ := X.leave (v := none) (fun _ => rfl) hlk
  exact ⟨_, _, X.returnOut hx hret (hb hby hd) hr, hrun, hended, _, _, rfl, ⟨hQ, kp, N⟩, ⟨_, rfl⟩, hW, hsame.mono hk hn⟩

/-! single steps that ask the tables or the heap -/
theorem own_ldc {target : State} {index : Nat} {v : Int32} (C : OwnCx p Z s m meth c own nm bytes maxL rt) (P : OwnPos p l e R s m args below meth c Z ws h0 T h cells slots)
    (w : (Cond.constant own index v).before a0 Z = true) (hd : decode bytes pc = .ok (.ldc index, 2))
    (k : Steps p.tables e below (T.setTop (mkF m (pc + 2) Ls (.int v :: rest))) target) : Steps p.tables e below (T.setTop (mkF m pc Ls rest)) target := by
  obtain ⟨hx, hZ, hown, hnm, hby, hml, hret, hlk⟩ := C
  obtain ⟨locs, X, eT, e0, N, E0, G0⟩ := P
  exact X.ldcInt hx hown (mvT hZ w) (g := mkF m pc Ls rest) rfl (hb hby hd) target k
theorem own_irem {target : State} {x y : Int32} (C : OwnCx p Z s m meth c own nm bytes maxL rt) (P : OwnPos p l e R s m args below meth c Z ws h0 T h cells slots)
    (hy : y ≠ 0) (hd : decode bytes pc = .ok (.irem, 1))
    (k : Steps p.tables e below (T.setTop (mkF m (pc + 1) Ls (.int (x % y) :: rest))) target) : Steps p.tables e below (T.setTop (mkF m pc Ls (.int y :: .int x :: rest))) target := by
  obtain ⟨hx, hZ, hown, hnm, hby, hml, hret, hlk⟩ := C
  obtain ⟨locs, X, eT, e0, N, E0, G0⟩ := P
  exact iremM X hx (g := mkF m pc Ls (.int y :: .int x :: rest)) rfl (hb hby hd) rfl hy k
theorem own_getF {R0 O n d host : String} {index : Nat} {a : Addr} {v : Value} (C : OwnCx p Z s m meth c own nm bytes maxL rt) (P : OwnPos p l e R s m args below meth c Z ws h0 T h cells slots)
    (w : (Cond.fieldLink own index R0 n d).before a0 Z = true ∨ (Cond.fieldLinkNest own index R0 n d host).before a0 Z = true) (via : Via Z R0 O n d) (F : Fld Z h a O n d v) (hd : decode bytes pc = .ok (.getfield index, 3))
    (K : ∀ T', OwnPos p l e R s m args below meth c Z ws h0 T' h cells slots → OwnDone p e below W (T'.setTop (mkF m (pc + 3) Ls (v :: rest)))) : OwnDone p e below W (T.setTop (mkF m pc Ls (.ref a :: rest))) := by
  obtain ⟨hx, hZ, hown, hnm, hby, hml, hret, hlk⟩ := C
  obtain ⟨locs, X, eT, e0, N, E0, G0⟩ := P
  obtain ⟨T', X', e', st⟩ := getF X hx hZ hown w via eT F (g := mkF m pc Ls (.ref a :: rest)) rfl rfl (hb hby hd)
  exact OwnDone.go st (K T' ⟨_, X', e', e0, N, E0, G0⟩)
theorem own_getS {R0 O n d host : String} {index : Nat} {v : Value} (C : OwnCx p Z s m meth c own nm bytes maxL rt) (P : OwnPos p l e R s m args below meth c Z ws h0 T h cells slots)
    (w : (Cond.fieldLink own index R0 n d).before a0 Z = true ∨ (Cond.fieldLinkNest own index R0 n d host).before a0 Z = true) (via : Via Z R0 O n d) (F : Sta Z Z.heap O n d v) (hd : decode bytes pc = .ok (.getstatic index, 3))
    (K : ∀ T', OwnPos p l e R s m args below meth c Z ws h0 T' h cells slots → OwnDone p e below W (T'.setTop (mkF m (pc + 3) Ls (v :: rest)))) : OwnDone p e below W (T.setTop (mkF m pc Ls rest)) := by
  have F := F.ext P.old
  obtain ⟨hx, hZ, hown, hnm, hby, hml, hret, hlk⟩ := C
  obtain ⟨locs, X, eT, e0, N, E0, G0⟩ := P
  obtain ⟨T', X', e', st⟩ := getS2 X hx hZ hown w via eT F (g := mkF m pc Ls rest) rfl (hb hby hd)
  exact OwnDone.go st (K T' ⟨_, X', e', e0, N, E0, G0⟩)
/-! calls, by the callee's contract -/
theorem own_callS {y : MethodName} {yb : ByteArray} {ym : Nat} {yr : Option FieldType} {rm : Room} {Q : Option Value → Heap → Prop} {index wd : Nat} {st : List Value} {as : List Value}
    (C : OwnCx p Z s m meth c own nm bytes maxL rt) (P : OwnPos p l e R s m args below meth c Z ws h0 T h cells slots)
    (w1 : (Cond.methodLink own index y).before a0 Z = true) (w2 : (Cond.static y).before a0 Z = true) (w3 : (Cond.initialized y.cls).before a0 Z = true) (w4 : (Cond.code y yb ym yr).before a0 Z = true)
    (hy : y.cls ≠ "java/lang/invoke/MethodHandle" ∧ y.cls ≠ "java/lang/invoke/VarHandle") (M : OwnMeets l y yb ym yr rm Z ws' as.toArray h Q) {ps : List FieldType} {pr : Option FieldType} (hpd : parseMethodDescriptor y.desc = some ⟨ps, pr⟩) (hlen : as.length = ps.length)
    (hst : st = as.reverse ++ rest) (hwd : (rest.map fun v => v.category).sum = wd) (hsz : Ls.size = maxL) (hd : decode bytes pc = .ok (.invokestatic index, 3))
    (hsub : ∀ a ∈ ws', a ∈ ws ∨ h0.size ≤ a) (hf : rm.frames + 1 ≤ R.frames) (hl : wd + (ym + 11) + rm.locals ≤ R.locals) (hc : cells + rm.cells ≤ R.cells) (hs : slots + rm.slots ≤ R.slots)
    (K : ∀ T' h' v, OwnPos p l e R s m args below meth c Z ws h0 T' h' (cells + rm.cells) (slots + rm.slots) → Keep h h' ws' → Q v h' → OwnDone p e below W (T'.setTop (mkF m (pc + 3) Ls (v.toList ++ rest)))) : OwnDone p e below W (T.setTop (mkF m pc Ls st)) := by
  have kp := P.keep
  obtain ⟨hx, hZ, hown, hnm, hby, hml, hret, hlk⟩ := C
  obtain ⟨locs, X, eT, e0, N, E0, G0⟩ := P
  obtain ⟨v, _, ⟨T', L', k', n'⟩, -, X', ⟨Lc, ⟨hQ, hK, NQ⟩, l1, l2, l3⟩, stp⟩ := Jvm.LawKit.callS X hx (y := y) hown (mvT hZ w1) (mvT hZ w2) (mvT hZ w3) (mvT hZ w4) hy (backOf (W := wd) (Q := fun v h2 L => Q v h2 ∧ Keep h h2 ws' ∧ ∀ y ∈ L, y.base ∈ ws' ∨ h.size ≤ y.base) (M []) hZ w4 w3 hf hl) (g := mkF m pc Ls st) rfl (by rw [hml]; exact hsz) (argsL := as) (rest := rest) (lenOf hpd hlen) hst (by show 2 * 0 + _ ≤ _; omega) (hb hby hd) (fun _ _ => ⟨rfl, eT, hc, hs⟩)
  dsimp only [Pt.U, Pt.locs, Pt.cells, Pt.slots] at X' l1 l2 l3 stp hQ hK
  subst l1 l2 l3
  have NN : ∀ y ∈ locs ++ Lc, y.base ∈ ws ∨ h0.size ≤ y.base := fun y hy => by
    rcases List.mem_append.mp hy with q | q
    · exact N y q
    · rcases NQ y q with q | q
      · exact hsub _ q
      · exact Or.inr (Nat.le_trans kp.1 q)
  exact OwnDone.go stp (K T' _ v ⟨_, X', rfl, e0, NN, E0, G0⟩ hK hQ)

theorem own_callV {y z : MethodName} {yb : ByteArray} {ym : Nat} {yr : Option FieldType} {rm : Room} {Q : Option Value → Heap → Prop} {index wd : Nat} {st : List Value} {as : List Value} {b : Addr} {CC : String}
    (C : OwnCx p Z s m meth c own nm bytes maxL rt) (P : OwnPos p l e R s m args below meth c Z ws h0 T h cells slots) (E : Exa Z h b CC)
    (w1 : (Cond.methodLink own index y).before a0 Z = true) (w2 : (Cond.declares y).before a0 Z = true) (nf : (Cond.selects y.cls y y).before a0 Z = true) (w5 : (Cond.selects CC y z).before a0 Z = true) (w6 : (Cond.instanceMethod z).before a0 Z = true) (w3 : (Cond.initialized z.cls).before a0 Z = true) (w4 : (Cond.code z yb ym yr).before a0 Z = true)
    (hy : y.cls ≠ "java/lang/invoke/MethodHandle" ∧ y.cls ≠ "java/lang/invoke/VarHandle") (M : OwnMeets l z yb ym yr rm Z ws' (.ref b :: as).toArray h Q) {ps : List FieldType} {pr : Option FieldType} (hpd : parseMethodDescriptor y.desc = some ⟨ps, pr⟩) (hlen : as.length = ps.length)
    (hst : st = as.reverse ++ .ref b :: rest) (hwd : (rest.map fun v => v.category).sum = wd) (hsz : Ls.size = maxL) (hd : decode bytes pc = .ok (.invokevirtual index, 3))
    (hsub : ∀ a ∈ ws', a ∈ ws ∨ h0.size ≤ a) (hf : rm.frames + 1 ≤ R.frames) (hl : wd + (ym + 11) + rm.locals ≤ R.locals) (hc : cells + rm.cells ≤ R.cells) (hs : slots + rm.slots ≤ R.slots)
    (K : ∀ T' h' v, OwnPos p l e R s m args below meth c Z ws h0 T' h' (cells + rm.cells) (slots + rm.slots) → Keep h h' ws' → Q v h' → OwnDone p e below W (T'.setTop (mkF m (pc + 3) Ls (v.toList ++ rest)))) : OwnDone p e below W (T.setTop (mkF m pc Ls st)) := by
  have kp := P.keep
  obtain ⟨hx, hZ, hown, hnm, hby, hml, hret, hlk⟩ := C
  obtain ⟨locs, X, eT, e0, N, E0, G0⟩ := P
  obtain ⟨cq, kq, qa, qb, qc⟩ := isOf hZ eT E
  obtain ⟨v, _, ⟨T', L', k', n'⟩, -, X', ⟨Lc, ⟨hQ, hK, NQ⟩, l1, l2, l3⟩, stp⟩ := X.virtualBack hx (y := y) (z := z) hown (mvT hZ w1) (mvT hZ w2) (notFace_of_selects (args := #[]) (mvT hZ nf)) (mvT hZ w5) (mvT hZ w6) hy (backOf (W := wd) (Q := fun v h2 L => Q v h2 ∧ Keep h h2 ws' ∧ ∀ y ∈ L, y.base ∈ ws' ∨ h.size ≤ y.base) (M []) hZ w4 w3 hf hl) qa qc (g := mkF m pc Ls st) rfl (by rw [hml]; exact hsz) (Steps.refl _) (argsL := as) (rest := rest) (lenOf hpd hlen) hst (by show 2 * 0 + _ ≤ _; omega) (hb hby hd) (fun _ _ => ⟨rfl, eT, hc, hs⟩)
  dsimp only [Pt.U, Pt.locs, Pt.cells, Pt.slots] at X' l1 l2 l3 stp hQ hK
  subst l1 l2 l3
  have NN : ∀ y ∈ locs ++ Lc, y.base ∈ ws ∨ h0.size ≤ y.base := fun y hy => by
    rcases List.mem_append.mp hy with q | q
    · exact N y q
    · rcases NQ y q with q | q
      · exact hsub _ q
      · exact Or.inr (Nat.le_trans kp.1 q)
  exact OwnDone.go (fun _ k => stp.trans k) (K T' _ v ⟨_, X', rfl, e0, NN, E0, G0⟩ hK hQ)

theorem own_callI {y : MethodName} {yb : ByteArray} {ym : Nat} {rm : Room} {Q : Option Value → Heap → Prop} {index wd : Nat} {st : List Value} {as : List Value} {b : Addr}
    (C : OwnCx p Z s m meth c own nm bytes maxL rt) (P : OwnPos p l e R s m args below meth c Z ws h0 T h cells slots) (hin : y.name = "<init>")
    (w1 : (Cond.methodLink own index y).before a0 Z = true) (w2 : (Cond.instanceMethod y).before a0 Z = true) (w3 : (Cond.initialized y.cls).before a0 Z = true) (w4 : (Cond.code y yb ym none).before a0 Z = true)
    (hy : y.cls ≠ "java/lang/invoke/MethodHandle" ∧ y.cls ≠ "java/lang/invoke/VarHandle") (M : OwnMeets l y yb ym none rm Z ws' (.ref b :: as).toArray h Q) {ps : List FieldType} {pr : Option FieldType} (hpd : parseMethodDescriptor y.desc = some ⟨ps, pr⟩) (hlen : as.length = ps.length)
    (hst : st = as.reverse ++ .ref b :: rest) (hwd : (rest.map fun v => v.category).sum = wd) (hsz : Ls.size = maxL) (hd : decode bytes pc = .ok (.invokespecial index, 3))
    (hsub : ∀ a ∈ ws', a ∈ ws ∨ h0.size ≤ a) (hf : rm.frames + 1 ≤ R.frames) (hl : wd + (ym + 11) + rm.locals ≤ R.locals) (hc : cells + rm.cells ≤ R.cells) (hs : slots + rm.slots ≤ R.slots)
    (K : ∀ T' h' v, OwnPos p l e R s m args below meth c Z ws h0 T' h' (cells + rm.cells) (slots + rm.slots) → Keep h h' ws' → Q v h' → OwnDone p e below W (T'.setTop (mkF m (pc + 3) Ls (v.toList ++ rest)))) : OwnDone p e below W (T.setTop (mkF m pc Ls st)) := by
  have kp := P.keep
  obtain ⟨hx, hZ, hown, hnm, hby, hml, hret, hlk⟩ := C
  obtain ⟨locs, X, eT, e0, N, E0, G0⟩ := P
  obtain ⟨v, _, ⟨T', L', k', n'⟩, -, X', ⟨Lc, ⟨hQ, hK, NQ⟩, l1, l2, l3⟩, stp⟩ := X.specialBack hx (y := y) hin hown (mvT hZ w1) (mvT hZ w2) (mvT hZ w4) hy (backOf (W := wd) (Q := fun v h2 L => Q v h2 ∧ Keep h h2 ws' ∧ ∀ y ∈ L, y.base ∈ ws' ∨ h.size ≤ y.base) (M []) hZ w4 w3 hf hl) (g := mkF m pc Ls st) rfl (by rw [hml]; exact hsz) (Steps.refl _) (a := b) (argsL := as) (rest := rest) (lenOf hpd hlen) hst (by show 2 * 0 + _ ≤ _; omega) (hb hby hd) (fun _ _ => ⟨rfl, eT, hc, hs⟩)
  dsimp only [Pt.U, Pt.locs, Pt.cells, Pt.slots] at X' l1 l2 l3 stp hQ hK
  subst l1 l2 l3
  have NN : ∀ y ∈ locs ++ Lc, y.base ∈ ws ∨ h0.size ≤ y.base := fun y hy => by
    rcases List.mem_append.mp hy with q | q
    · exact N y q
    · rcases NQ y q with q | q
      · exact hsub _ q
      · exact Or.inr (Nat.le_trans kp.1 q)
  exact OwnDone.go (fun _ k => stp.trans k) (K T' _ v ⟨_, X', rfl, e0, NN, E0, G0⟩ hK hQ)

theorem own_callP {y : MethodName} {yb : ByteArray} {ym : Nat} {yr : Option FieldType} {rm : Room} {Q : Option Value → Heap → Prop} {index wd : Nat} {st : List Value} {as : List Value} {b : Addr} {CC : String}
    (C : OwnCx p Z s m meth c own nm bytes maxL rt) (P : OwnPos p l e R s m args below meth c Z ws h0 T h cells slots) (E : Exa Z h b CC)
    (w1 : (Cond.methodLink own index y).before a0 Z = true) (w2 : (Cond.instanceMethod y).before a0 Z = true) {nI : Nat} (wi : (Cond.instantiable y.cls nI).before a0 Z = true) (w6 : (Cond.privateMethod y).before a0 Z = true) (w3 : (Cond.initialized y.cls).before a0 Z = true) (w4 : (Cond.code y yb ym yr).before a0 Z = true)
    (hy : y.cls ≠ "java/lang/invoke/MethodHandle" ∧ y.cls ≠ "java/lang/invoke/VarHandle") (M : OwnMeets l y yb ym yr rm Z ws' (.ref b :: as).toArray h Q) {ps : List FieldType} {pr : Option FieldType} (hpd : parseMethodDescriptor y.desc = some ⟨ps, pr⟩) (hlen : as.length = ps.length)
    (hst : st = as.reverse ++ .ref b :: rest) (hwd : (rest.map fun v => v.category).sum = wd) (hsz : Ls.size = maxL) (hd : decode bytes pc = .ok (.invokevirtual index, 3))
    (hsub : ∀ a ∈ ws', a ∈ ws ∨ h0.size ≤ a) (hf : rm.frames + 1 ≤ R.frames) (hl : wd + (ym + 11) + rm.locals ≤ R.locals) (hc : cells + rm.cells ≤ R.cells) (hs : slots + rm.slots ≤ R.slots)
    (K : ∀ T' h' v, OwnPos p l e R s m args below meth c Z ws h0 T' h' (cells + rm.cells) (slots + rm.slots) → Keep h h' ws' → Q v h' → OwnDone p e below W (T'.setTop (mkF m (pc + 3) Ls (v.toList ++ rest)))) : OwnDone p e below W (T.setTop (mkF m pc Ls st)) := by
  have kp := P.keep
  obtain ⟨hx, hZ, hown, hnm, hby, hml, hret, hlk⟩ := C
  obtain ⟨locs, X, eT, e0, N, E0, G0⟩ := P
  obtain ⟨cq, qa, qb⟩ := E.cell
  obtain ⟨ci, ki, i1, i2, i3, i4, -⟩ := Cond.instantiable_spec (mvT (args := args) hZ wi)
  have hni : ki.isInterface = false := by
    simp only [Bool.or_eq_false_iff] at i4; exact i4.1
  obtain ⟨v, _, ⟨T', L', k', n'⟩, -, X', ⟨Lc, ⟨hQ, hK, NQ⟩, l1, l2, l3⟩, stp⟩ := X.privateBack hx (y := y) hown (mvT hZ w1) (mvT hZ w2) (selects_self_of_private i1 i2 hni (Cond.privateMethod_at (mvP hZ w6 (args := #[]))) (mvT hZ w2) hy) (Cond.privateMethod_at (mvP hZ w6 (args := #[]))) (mvT hZ w4) hy (backOf (W := wd) (Q := fun v h2 L => Q v h2 ∧ Keep h h2 ws' ∧ ∀ y ∈ L, y.base ∈ ws' ∨ h.size ≤ y.base) (M []) hZ w4 w3 hf hl) (g := mkF m pc Ls st) rfl (by rw [hml]; exact hsz) (Steps.refl _) (a := b) (by rw [eT]; exact qa) qb (argsL := as) (rest := rest) (lenOf hpd hlen) hst (by show 2 * 0 + _ ≤ _; omega) (hb hby hd) (fun _ _ => ⟨rfl, eT, hc, hs⟩)
  dsimp only [Pt.U, Pt.locs, Pt.cells, Pt.slots] at X' l1 l2 l3 stp hQ hK
  subst l1 l2 l3
  have NN : ∀ y ∈ locs ++ Lc, y.base ∈ ws ∨ h0.size ≤ y.base := fun y hy => by
    rcases List.mem_append.mp hy with q | q
    · exact N y q
    · rcases NQ y q with q | q
      · exact hsub _ q
      · exact Or.inr (Nat.le_trans kp.1 q)
  exact OwnDone.go (fun _ k => stp.trans k) (K T' _ v ⟨_, X', rfl, e0, NN, E0, G0⟩ hK hQ)

theorem own_initO {index wd : Nat} {a : Addr} (C : OwnCx p Z s m meth c own nm bytes maxL rt) (P : OwnPos p l e R s m args below meth c Z ws h0 T h cells slots)
    (w1 : (Cond.methodLink own index Lib.objectInit).before a0 Z = true) (w2 : (Cond.instanceMethod Lib.objectInit).before a0 Z = true) (w3 : (Cond.code Lib.objectInit ⟨#[0xb1]⟩ 1 none).before a0 Z = true)
    (hwd : (rest.map fun v => v.category).sum = wd) (hsz : Ls.size = maxL) (hd : decode bytes pc = .ok (.invokespecial index, 3)) (hf : 1 ≤ R.frames) (hl : wd + 12 ≤ R.locals)
    (K : ∀ T', OwnPos p l e R s m args below meth c Z ws h0 T' h cells slots → OwnDone p e below W (T'.setTop (mkF m (pc + 3) Ls rest))) : OwnDone p e below W (T.setTop (mkF m pc Ls (.ref a :: rest))) := by
  obtain ⟨hx, hZ, hown, hnm, hby, hml, hret, hlk⟩ := C
  obtain ⟨locs, X, eT, e0, N, E0, G0⟩ := P
  obtain ⟨T', X', e', st⟩ := initO X hx hZ hown w1 w2 w3 eT (g := mkF m pc Ls (.ref a :: rest)) rfl (by rw [hml]; exact hsz) rfl (hb hby hd) hf (W := wd) (by show 2 * 0 + _ ≤ _; omega) hl
  exact OwnDone.go st (K T' ⟨_, X', e', e0, N, E0, G0⟩)
theorem own_w0 : (([] : List Value).map fun v => v.category).sum = 0 := rfl
theorem own_w1 {v : Value} {L : List Value} {c n k : Nat} (h : v.category = c) (r : (L.map fun v => v.category).sum = n) (e : c + n = k) : ((v :: L).map fun v => v.category).sum = k := by
  rw [List.map_cons, List.sum_cons, r, h, e]
theorem own_nb {z : Int32} (h : z = 0 ∨ z = 1) : narrow .boolean (.int z) = .int z := by rcases h with rfl | rfl <;> rfl
theorem own_fb {z : Int32} (h : z = 0 ∨ z = 1) : fits .boolean (.int z) = true := by rcases h with rfl | rfl <;> rfl
theorem own_nref {t : FieldType} {v : Value} (ht : t.isReference = true) : narrow t v = v := by cases t <;> first | (cases ht; done) | rfl
theorem own_fref {t : FieldType} {v : Value} (ht : t.isReference = true) (hv : v.isRef = true) : fits t v = true := by
  cases t <;> first | (cases ht; done) | (cases v <;> first | (cases hv; done) | rfl)
/-! objects: all their fields at once -/
def OwnObj (Z : State) (h : Heap) (a : Addr) (C : String) (lay : List (String × String × String)) (vs : List Value) : Prop :=
  Exa Z h a C ∧ ∀ (i : Nat) (O n d : String) (v : Value), lay[i]? = some (O, n, d) → vs[i]? = some v → Fld Z h a O n d v
/-- the sheet lays these fields; their names are unlike -/
def OwnLaid (Z : State) (a0 : Array Value) (C : String) (lay : List (String × String × String)) : Prop :=
  (∀ q ∈ lay, Laid Z a0 C q.1 q.2.1 q.2.2) ∧ (lay.map fun q => q.2.1).Nodup ∧ ∀ q ∈ lay, ∃ t, parseFieldDescriptor q.2.2 = some t
section Obj
variable {a b : Addr} {CC : String} {lay : List (String × String × String)} {vs vs' : List Value}
theorem OwnObj.lt (F : OwnObj Z h a CC lay vs) : a < h.size := F.1.lt
theorem OwnObj.keep (F : OwnObj Z h a CC lay vs) (K : Keep h h' ws) (q : a ∉ ws) : OwnObj Z h' a CC lay vs :=
  ⟨F.1.keep K, fun i O n d v h1 h2 => (F.2 i O n d v h1 h2).keep K q⟩
theorem own_names (nd : (lay.map fun q => q.2.1).Nodup) {i j : Nat} {O n d O' n' d' : String} (hi : lay[i]? = some (O, n, d)) (hj : lay[j]? = some (O', n', d')) (ne : i ≠ j) : n ≠ n' := fun e => by
  have hl : i < (lay.map fun q => q.2.1).length := by simpa using (List.getElem?_eq_some_iff.mp hi).1
  refine ne ((List.getElem?_inj hl nd).mp ?_)
  simp [hi, hj, e]
theorem OwnObj.put {O n d : String} {v : Value} (F : OwnObj Z h a CC lay vs) (LL : OwnLaid Z a0 CC lay) (W : Wr h h' a (Jvm.RoadKit.slotOf Z O n d) v) (i : Nat) (hi : lay[i]? = some (O, n, d)) (hv : vs.set i v = vs') : OwnObj Z h' a CC lay vs' := by
  subst hv
  refine ⟨F.1.wr W, fun j O' n' d' v' h1 h2 => ?_⟩
  by_cases q : i = j
  · subst q
    cases hi.symm.trans h1
    have hl : i < vs.length := by
      have := (List.getElem?_eq_some_iff.mp h2).1
      simpa using this
    rw [List.getElem?_set_self hl] at h2
    cases h2
    exact (F.2 i _ _ _ _ h1 (List.getElem?_eq_getElem hl)).same W
  · rw [List.getElem?_set_ne q] at h2
    obtain ⟨t, ht⟩ := LL.2.2 (O, n, d) (List.mem_of_getElem? hi)
    obtain ⟨t', ht'⟩ := LL.2.2 (O', n', d') (List.mem_of_getElem? h1)
    have L1 : Laid Z a0 CC O' n' d' := LL.1 (O', n', d') (List.mem_of_getElem? h1)
    have L2 : Laid Z a0 CC O n d := LL.1 (O, n, d) (List.mem_of_getElem? hi)
    have t1 : parseFieldDescriptor d' = some t' := ht'
    have t2 : parseFieldDescriptor d = some t := ht
    have nn : n' ≠ n := own_names LL.2.1 h1 hi (Ne.symm q)
    have sn := Jvm.RoadKit.slot_ne L1 L2 nn t1 t2
    exact (F.2 j O' n' d' v' h1 h2).other W (Or.inr sn)
theorem own_new {n index : Nat} (C : OwnCx p Z s m meth c own nm bytes maxL rt) (P : OwnPos p l e R s m args below meth c Z ws h0 T h cells slots)
    (w : (Cond.classLink own index CC).before a0 Z = true) (wi : (Cond.instantiable CC n).before a0 Z = true) (wz : (Cond.initialized CC).before a0 Z = true) (LL : OwnLaid Z a0 CC lay)
    (hv : lay.map (fun q => (parseFieldDescriptor q.2.2).map defaultValue) = vs.map some) (hd : decode bytes pc = .ok (.new index, 3)) (hc : cells + 1 ≤ R.cells) (hl : slots + n ≤ R.slots)
    (K : ∀ T' h' a, a = h.size → a < h'.size → OwnPos p l e R s m args below meth c Z ws h0 T' h' (cells + 1) (slots + n) → Keep h h' [] → OwnObj Z h' a CC lay vs → OwnDone p e below W (T'.setTop (mkF m (pc + 3) Ls (.ref a :: rest)))) : OwnDone p e below W (T.setTop (mkF m pc Ls rest)) := by
  have kp := P.keep
  obtain ⟨hx, hZ, hown, hnm, hby, hml, hret, hlk⟩ := C
  obtain ⟨locs, X, eT, e0, N, E0, G0⟩ := P
  obtain ⟨T', h', X', e', E', A', D', -, st⟩ := newO X hx hZ hown w wi wz eT (g := mkF m pc Ls rest) rfl (hb hby hd) hc hl
  refine OwnDone.go st (K T' h' h.size rfl A'.lt ⟨_, X', e', e0, N, E0, G0⟩ ((Keep.refl h []).ext E') ⟨A', fun i O n d v h1 h2 => ?_⟩)
  have q : (lay.map (fun q => (parseFieldDescriptor q.2.2).map defaultValue))[i]? = (vs.map some)[i]? := by rw [hv]
  simp only [List.getElem?_map, h1, h2, Option.map_some] at q
  obtain ⟨t, ht⟩ := LL.2.2 _ (List.mem_of_getElem? h1)
  rw [ht] at q
  obtain rfl : defaultValue t = v := by simpa using q
  exact D' (LL.1 _ (List.mem_of_getElem? h1)) ht
theorem own_putO {R0 O n d : String} {index kk : Nat} {ty : FieldType} {v v' : Value} (C : OwnCx p Z s m meth c own nm bytes maxL rt) (P : OwnPos p l e R s m args below meth c Z ws h0 T h cells slots)
    (w : (Cond.fieldLink own index R0 n d).before a0 Z = true) (via : Via Z R0 O n d) (F : OwnObj Z h a CC lay vs) (LL : OwnLaid Z a0 CC lay) (i : Nat) (hi : lay[i]? = some (O, n, d)) {old : Value} (ho : vs[i]? = some old)
    (L : (Cond.lays CC O n d).before a0 Z = true ∨ ((Cond.laysFinal CC O n d).before a0 Z = true ∧ own = O ∧ nm = "<init>")) (wi : (Cond.instantiable CC kk).before a0 Z = true)
    (hty : parseFieldDescriptor d = some ty) (hn : narrow ty v = v') (hf : fits ty v' = true) (hge : a ∈ ws ∨ h0.size ≤ a) (hd : decode bytes pc = .ok (.putfield index, 3)) (hvs : vs.set i v' = vs')
    (K : ∀ T' h', OwnPos p l e R s m args below meth c Z ws h0 T' h' cells slots → Keep h h' [a] → OwnObj Z h' a CC lay vs' → OwnDone p e below W (T'.setTop (mkF m (pc + 3) Ls rest))) : OwnDone p e below W (T.setTop (mkF m pc Ls (v :: .ref a :: rest))) := by
  obtain ⟨hx, hZ, hown, hnm, hby, hml, hret, hlk⟩ := C
  obtain ⟨locs, X, eT, e0, N, E0, G0⟩ := P
  subst hnm
  obtain ⟨T', h', X', e', W', st⟩ := putFN X hx hZ hown w via eT (F.2 i _ _ _ _ hi ho) F.1 L wi hty hn hf (g := mkF m pc Ls (v :: .ref a :: rest)) rfl rfl (hb hby hd)
  have NN : ∀ y ∈ locs ++ [⟨a, Jvm.RoadKit.slotOf Z O n d⟩], y.base ∈ ws ∨ h0.size ≤ y.base := fun y hy => by
    rcases List.mem_append.mp hy with q | q
    · exact N y q
    · cases List.mem_singleton.mp q; exact hge
  exact OwnDone.go st (K T' h' ⟨_, X', e', e0, NN, E0, G0⟩ (Keep.of_wr W') (F.put LL W' i hi hvs))
end Obj
/-! arrays: all their elements at once -/
def OwnAry (Z : State) (h : Heap) (a : Addr) (k : ClassId) (ty : FieldType) (vs : List Value) : Prop := ∃ c : Cell, Arr Z h a c ty ∧ c.cls = k ∧ c.slots.toList = vs
section Ary
variable {a b : Addr} {k : ClassId} {ty : FieldType} {vs vs' : List Value} {j : Int32}
theorem OwnAry.lt (F : OwnAry Z h a k ty vs) : a < h.size := by obtain ⟨c, A, -⟩ := F; exact A.lt
theorem OwnAry.keep (F : OwnAry Z h a k ty vs) (K : Keep h h' ws) (q : a ∉ ws) : OwnAry Z h' a k ty vs := by
  obtain ⟨c, A, r⟩ := F; exact ⟨c, ⟨K.2.1 a c A.1 q, A.2⟩, r⟩
theorem OwnAry.ext (F : OwnAry Z h a k ty vs) (E : Ext h h') : OwnAry Z h' a k ty vs := by obtain ⟨c, A, r⟩ := F; exact ⟨c, A.ext E, r⟩
theorem OwnAry.set {i : Nat} {v : Value} (F : OwnAry Z h a k ty vs) (W : Wr h h' a i v) : OwnAry Z h' a k ty (vs.set i v) := by
  obtain ⟨c, A, r1, r2⟩ := F
  exact ⟨_, A.same W, r1, by rw [← r2]; simp [Cell.setSlot]⟩
theorem own_in {c : Cell} (r : c.slots.toList = vs) (h1 : ¬ j < 0) (h2 : j.toNatClampNeg < vs.length) : ¬ (j < 0 ∨ c.slots.size ≤ j.toNatClampNeg) := by
  have e : c.slots.size = vs.length := by rw [← r]; simp
  rw [e]; rintro (q | q)
  · exact h1 q
  · omega
theorem own_at {c : Cell} {i : Nat} (r : c.slots.toList = vs) : c.slots[i]? = vs[i]? := by rw [← r]; simp
theorem own_cls {cc : Cell} {ad : String} (A : Arr Z h a cc ty) (E : Exa Z h a ad) : Z.vm.findClass ad = some cc.cls := by
  obtain ⟨c1, k1, h1, h2, -⟩ := E
  cases A.1.symm.trans h1
  exact h2
theorem OwnAry.ins {cn : String} (F : OwnAry Z h a k ty vs) (hk : Z.vm.findClass cn = some k) : Ins Z h a cn true := by
  obtain ⟨c1, A, rfl, -⟩ := F
  exact ⟨c1, _, A.1, hk, by simp [A.plain, Vm.assignable_self]⟩
theorem OwnAry.insC {cn C' : String} (F : OwnAry Z h a k ty vs) (hk : Z.vm.findClass cn = some k) (w : (Cond.castable cn C').before a0 Z = true) : Ins Z h a C' true := by
  obtain ⟨c1, A, rfl, -⟩ := F
  obtain ⟨d1, d2, g1, g2, g3⟩ := Cond.castable_spec w
  cases hk.symm.trans g1
  exact ⟨c1, d2, A.1, g2, by simp [A.plain, g3]⟩
theorem OwnAry.sto {C' : String} {y : Addr} (F : OwnAry Z h a k ty vs) (O : Ovr Z k C') (I : Ins Z h y C' true) : Sto Z h a (.ref y) := by
  obtain ⟨c1, A, q, -⟩ := F; exact Sto.ofV A q O I
theorem OwnAry.stoA {C' : String} {t : FieldType} {y : Addr} (F : OwnAry Z h a k ty vs) (O : OvrA Z k t C') (I : Ins Z h y C' true) : Sto Z h a (.ref y) := by
  obtain ⟨c1, A, q, -⟩ := F; exact Sto.ofVA A q O I
theorem own_newP {aty : ArrayType} {n : Int32} {cap : Nat} {ad : String} (C : OwnCx p Z s m meth c own nm bytes maxL rt) (P : OwnPos p l e R s m args below meth c Z ws h0 T h cells slots)
    (w : (Cond.arrayClass (newarray.typeOf aty)).before a0 Z = true) (hd : decode bytes pc = .ok (.newarray aty, 2)) (hn : ¬ n < 0) (hcap : n.toNatClampNeg ≤ cap) (hbb : cap * 8 ≤ 536870912) (hvs : List.replicate n.toNatClampNeg (defaultValue (newarray.typeOf aty)) = vs) (had : "[" ++ (newarray.typeOf aty).toString = ad) (hc : cells + 1 ≤ R.cells) (hl : slots + cap ≤ R.slots)
    (K : ∀ T' h' a k, a = h.size → a < h'.size → OwnPos p l e R s m args below meth c Z ws h0 T' h' (cells + 1) (slots + cap) → Keep h h' [] → OwnAry Z h' a k (newarray.typeOf aty) vs → Z.vm.findClass ad = some k → OwnDone p e below W (T'.setTop (mkF m (pc + 2) Ls (.ref a :: rest)))) : OwnDone p e below W (T.setTop (mkF m pc Ls (.int n :: rest))) := by
  obtain ⟨hx, hZ, hown, hnm, hby, hml, hret, hlk⟩ := C
  obtain ⟨locs, X, eT, e0, N, E0, G0⟩ := P
  obtain ⟨T', h', cA, X', e', E', A', EX, st⟩ := newPE X hx hZ w eT (g := mkF m pc Ls (.int n :: rest)) rfl (hb hby hd) rfl hn hcap hbb hc hl had
  exact OwnDone.go st (K T' h' h.size cA rfl A'.lt ⟨_, X', e', e0, N, E0, G0⟩ ((Keep.refl h []).ext E') ⟨_, A', rfl, by rw [← hvs]; simp [newA]⟩ (own_cls A' EX))
theorem own_newR {CC : String} {index : Nat} {n : Int32} {cap : Nat} {ad : String} (C : OwnCx p Z s m meth c own nm bytes maxL rt) (P : OwnPos p l e R s m args below meth c Z ws h0 T h cells slots)
    (w1 : (Cond.classLink own index CC).before a0 Z = true) (w2 : (Cond.arrayOver (.object CC)).before a0 Z = true) (hd : decode bytes pc = .ok (.anewarray index, 3)) (hn : ¬ n < 0) (hcap : n.toNatClampNeg ≤ cap) (hbb : cap * 8 ≤ 536870912) (hvs : List.replicate n.toNatClampNeg Value.null = vs) (had : "[" ++ (FieldType.object CC).toString = ad) (hc : cells + 1 ≤ R.cells) (hl : slots + cap ≤ R.slots)
    (K : ∀ T' h' a k, a = h.size → a < h'.size → OwnPos p l e R s m args below meth c Z ws h0 T' h' (cells + 1) (slots + cap) → Keep h h' [] → OwnAry Z h' a k (.object CC) vs → Z.vm.findClass ad = some k → Ovr Z k CC → OwnDone p e below W (T'.setTop (mkF m (pc + 3) Ls (.ref a :: rest)))) : OwnDone p e below W (T.setTop (mkF m pc Ls (.int n :: rest))) := by
  obtain ⟨hx, hZ, hown, hnm, hby, hml, hret, hlk⟩ := C
  obtain ⟨locs, X, eT, e0, N, E0, G0⟩ := P
  obtain ⟨T', h', cA, X', e', E', A', EX, O', st⟩ := newRE X hx hZ hown w1 w2 eT (g := mkF m pc Ls (.int n :: rest)) rfl (hb hby hd) rfl hn hcap hbb hc hl had
  exact OwnDone.go st (K T' h' h.size cA rfl A'.lt ⟨_, X', e', e0, N, E0, G0⟩ ((Keep.refl h []).ext E') ⟨_, A', rfl, by rw [← hvs]; simp [newA, defaultValue]⟩ (own_cls A' EX) O')
theorem own_newA {CC : String} {t : FieldType} {index : Nat} {n : Int32} {cap : Nat} {ad : String} (C : OwnCx p Z s m meth c own nm bytes maxL rt) (P : OwnPos p l e R s m args below meth c Z ws h0 T h cells slots)
    (hC : (FieldType.array t).toString = CC) (w1 : (Cond.classLink own index CC).before a0 Z = true) (w2 : (Cond.arrayOver (.array t)).before a0 Z = true) (hd : decode bytes pc = .ok (.anewarray index, 3)) (hn : ¬ n < 0) (hcap : n.toNatClampNeg ≤ cap) (hbb : cap * 8 ≤ 536870912) (hvs : List.replicate n.toNatClampNeg Value.null = vs) (had : "[" ++ CC = ad) (hc : cells + 1 ≤ R.cells) (hl : slots + cap ≤ R.slots)
    (K : ∀ T' h' a k, a = h.size → a < h'.size → OwnPos p l e R s m args below meth c Z ws h0 T' h' (cells + 1) (slots + cap) → Keep h h' [] → OwnAry Z h' a k (.array t) vs → Z.vm.findClass ad = some k → OvrA Z k t CC → OwnDone p e below W (T'.setTop (mkF m (pc + 3) Ls (.ref a :: rest)))) : OwnDone p e below W (T.setTop (mkF m pc Ls (.int n :: rest))) := by
  obtain ⟨hx, hZ, hown, hnm, hby, hml, hret, hlk⟩ := C
  obtain ⟨locs, X, eT, e0, N, E0, G0⟩ := P
  obtain ⟨T', h', cA, X', e', E', A', EX, O', st⟩ := newRA X hx hZ hown hC w1 w2 eT (g := mkF m pc Ls (.int n :: rest)) rfl (hb hby hd) rfl hn hcap hbb hc hl had
  exact OwnDone.go st (K T' h' h.size cA rfl A'.lt ⟨_, X', e', e0, N, E0, G0⟩ ((Keep.refl h []).ext E') ⟨_, A', rfl, by rw [← hvs]; simp [newA, defaultValue]⟩ (own_cls A' EX) O')
theorem own_iastore {x : Int32} (C : OwnCx p Z s m meth c own nm bytes maxL rt) (P : OwnPos p l e R s m args below meth c Z ws h0 T h cells slots)
    (F : OwnAry Z h a k .int vs) (h1 : ¬ j < 0) (h2 : j.toNatClampNeg < vs.length) (hge : a ∈ ws ∨ h0.size ≤ a) (hd : decode bytes pc = .ok (.iastore, 1)) (hvs : vs.set j.toNatClampNeg (.int x) = vs')
    (K : ∀ T' h', OwnPos p l e R s m args below meth c Z ws h0 T' h' cells slots → Keep h h' [a] → OwnAry Z h' a k .int vs' → OwnDone p e below W (T'.setTop (mkF m (pc + 1) Ls rest))) : OwnDone p e below W (T.setTop (mkF m pc Ls ((.int x) :: .int j :: .ref a :: rest))) := by
  obtain ⟨hx, hZ, hown, hnm, hby, hml, hret, hlk⟩ := C
  obtain ⟨locs, X, eT, e0, N, E0, G0⟩ := P
  obtain ⟨c0, A0, r1, r2⟩ := id F
  obtain ⟨T', h', X', e', W', st⟩ := stI X hx hZ eT A0 (own_in r2 h1 h2) (g := mkF m pc Ls ((.int x) :: .int j :: .ref a :: rest)) rfl rfl (hb hby hd)
  have NN : ∀ y ∈ locs ++ [⟨a, j.toNatClampNeg⟩], y.base ∈ ws ∨ h0.size ≤ y.base := fun y hy => by
    rcases List.mem_append.mp hy with q | q
    · exact N y q
    · cases List.mem_singleton.mp q; exact hge
  exact OwnDone.go st (K T' h' ⟨_, X', e', e0, NN, E0, G0⟩ (Keep.of_wr W') (hvs ▸ F.set W'))
theorem own_lastore {x : Int64} (C : OwnCx p Z s m meth c own nm bytes maxL rt) (P : OwnPos p l e R s m args below meth c Z ws h0 T h cells slots)
    (F : OwnAry Z h a k .long vs) (h1 : ¬ j < 0) (h2 : j.toNatClampNeg < vs.length) (hge : a ∈ ws ∨ h0.size ≤ a) (hd : decode bytes pc = .ok (.lastore, 1)) (hvs : vs.set j.toNatClampNeg (.long x) = vs')
    (K : ∀ T' h', OwnPos p l e R s m args below meth c Z ws h0 T' h' cells slots → Keep h h' [a] → OwnAry Z h' a k .long vs' → OwnDone p e below W (T'.setTop (mkF m (pc + 1) Ls rest))) : OwnDone p e below W (T.setTop (mkF m pc Ls ((.long x) :: .int j :: .ref a :: rest))) := by
  obtain ⟨hx, hZ, hown, hnm, hby, hml, hret, hlk⟩ := C
  obtain ⟨locs, X, eT, e0, N, E0, G0⟩ := P
  obtain ⟨c0, A0, r1, r2⟩ := id F
  obtain ⟨T', h', X', e', W', st⟩ := stJ X hx hZ eT A0 (own_in r2 h1 h2) (g := mkF m pc Ls ((.long x) :: .int j :: .ref a :: rest)) rfl rfl (hb hby hd)
  have NN : ∀ y ∈ locs ++ [⟨a, j.toNatClampNeg⟩], y.base ∈ ws ∨ h0.size ≤ y.base := fun y hy => by
    rcases List.mem_append.mp hy with q | q
    · exact N y q
    · cases List.mem_singleton.mp q; exact hge
  exact OwnDone.go st (K T' h' ⟨_, X', e', e0, NN, E0, G0⟩ (Keep.of_wr W') (hvs ▸ F.set W'))
theorem own_castore {x : Int32} (C : OwnCx p Z s m meth c own nm bytes maxL rt) (P : OwnPos p l e R s m args below meth c Z ws h0 T h cells slots)
    (F : OwnAry Z h a k .char vs) (h1 : ¬ j < 0) (h2 : j.toNatClampNeg < vs.length) (hge : a ∈ ws ∨ h0.size ≤ a) (hd : decode bytes pc = .ok (.castore, 1)) (hvs : vs.set j.toNatClampNeg (.int (nar .char x)) = vs')
    (K : ∀ T' h', OwnPos p l e R s m args below meth c Z ws h0 T' h' cells slots → Keep h h' [a] → OwnAry Z h' a k .char vs' → OwnDone p e below W (T'.setTop (mkF m (pc + 1) Ls rest))) : OwnDone p e below W (T.setTop (mkF m pc Ls (.int x :: .int j :: .ref a :: rest))) := by
  obtain ⟨hx, hZ, hown, hnm, hby, hml, hret, hlk⟩ := C
  obtain ⟨locs, X, eT, e0, N, E0, G0⟩ := P
  obtain ⟨c0, A0, r1, r2⟩ := id F
  obtain ⟨T', h', X', e', W', st⟩ := stC X hx hZ eT A0 (own_in r2 h1 h2) (g := mkF m pc Ls (.int x :: .int j :: .ref a :: rest)) rfl rfl (hb hby hd)
  have NN : ∀ y ∈ locs ++ [⟨a, j.toNatClampNeg⟩], y.base ∈ ws ∨ h0.size ≤ y.base := fun y hy => by
    rcases List.mem_append.mp hy with q | q
    · exact N y q
    · cases List.mem_singleton.mp q; exact hge
  exact OwnDone.go st (K T' h' ⟨_, X', e', e0, NN, E0, G0⟩ (Keep.of_wr W') (hvs ▸ F.set W'))
theorem own_bastore {x : Int32} (C : OwnCx p Z s m meth c own nm bytes maxL rt) (P : OwnPos p l e R s m args below meth c Z ws h0 T h cells slots)
    (F : OwnAry Z h a k .byte vs) (h1 : ¬ j < 0) (h2 : j.toNatClampNeg < vs.length) (hge : a ∈ ws ∨ h0.size ≤ a) (hd : decode bytes pc = .ok (.bastore, 1)) (hvs : vs.set j.toNatClampNeg (.int (nar .byte x)) = vs')
    (K : ∀ T' h', OwnPos p l e R s m args below meth c Z ws h0 T' h' cells slots → Keep h h' [a] → OwnAry Z h' a k .byte vs' → OwnDone p e below W (T'.setTop (mkF m (pc + 1) Ls rest))) : OwnDone p e below W (T.setTop (mkF m pc Ls (.int x :: .int j :: .ref a :: rest))) := by
  obtain ⟨hx, hZ, hown, hnm, hby, hml, hret, hlk⟩ := C
  obtain ⟨locs, X, eT, e0, N, E0, G0⟩ := P
  obtain ⟨c0, A0, r1, r2⟩ := id F
  obtain ⟨T', h', X', e', W', st⟩ := stB X hx hZ eT A0 (own_in r2 h1 h2) (g := mkF m pc Ls (.int x :: .int j :: .ref a :: rest)) rfl rfl (hb hby hd)
  have NN : ∀ y ∈ locs ++ [⟨a, j.toNatClampNeg⟩], y.base ∈ ws ∨ h0.size ≤ y.base := fun y hy => by
    rcases List.mem_append.mp hy with q | q
    · exact N y q
    · cases List.mem_singleton.mp q; exact hge
  exact OwnDone.go st (K T' h' ⟨_, X', e', e0, NN, E0, G0⟩ (Keep.of_wr W') (hvs ▸ F.set W'))
theorem own_aastore {v : Value} (C : OwnCx p Z s m meth c own nm bytes maxL rt) (P : OwnPos p l e R s m args below meth c Z ws h0 T h cells slots)
    (F : OwnAry Z h a k ty vs) (hty : ty.isReference = true) (h1 : ¬ j < 0) (h2 : j.toNatClampNeg < vs.length) (S : Sto Z h a v) (hge : a ∈ ws ∨ h0.size ≤ a) (hd : decode bytes pc = .ok (.aastore, 1)) (hvs : vs.set j.toNatClampNeg v = vs')
    (K : ∀ T' h', OwnPos p l e R s m args below meth c Z ws h0 T' h' cells slots → Keep h h' [a] → OwnAry Z h' a k ty vs' → OwnDone p e below W (T'.setTop (mkF m (pc + 1) Ls rest))) : OwnDone p e below W (T.setTop (mkF m pc Ls (v :: .int j :: .ref a :: rest))) := by
  obtain ⟨hx, hZ, hown, hnm, hby, hml, hret, hlk⟩ := C
  obtain ⟨locs, X, eT, e0, N, E0, G0⟩ := P
  obtain ⟨c0, A0, r1, r2⟩ := id F
  obtain ⟨T', h', X', e', W', st⟩ := stR X hx hZ eT A0 (own_in r2 h1 h2) hty S (g := mkF m pc Ls (v :: .int j :: .ref a :: rest)) rfl rfl (hb hby hd)
  have NN : ∀ y ∈ locs ++ [⟨a, j.toNatClampNeg⟩], y.base ∈ ws ∨ h0.size ≤ y.base := fun y hy => by
    rcases List.mem_append.mp hy with q | q
    · exact N y q
    · cases List.mem_singleton.mp q; exact hge
  exact OwnDone.go st (K T' h' ⟨_, X', e', e0, NN, E0, G0⟩ (Keep.of_wr W') (hvs ▸ F.set W'))
theorem own_iaload {v : Value} {target : State} (C : OwnCx p Z s m meth c own nm bytes maxL rt) (P : OwnPos p l e R s m args below meth c Z ws h0 T h cells slots)
    (F : OwnAry Z h a k .int vs) (h1 : ¬ j < 0) (hv : vs[j.toNatClampNeg]? = some v) (hd : decode bytes pc = .ok (.iaload, 1))
    (K : Steps p.tables e below (T.setTop (mkF m (pc + 1) Ls (v :: rest))) target) : Steps p.tables e below (T.setTop (mkF m pc Ls (.int j :: .ref a :: rest))) target := by
  obtain ⟨hx, hZ, hown, hnm, hby, hml, hret, hlk⟩ := C
  obtain ⟨locs, X, eT, e0, N, E0, G0⟩ := P
  obtain ⟨c0, A0, r1, r2⟩ := F
  exact X.iaload hx (j := j) (v := v) (by rw [eT]; exact A0.1) (State.isArrayOf_alike hZ.alike A0.2.1) A0.2.2 (own_in r2 h1 (List.getElem?_eq_some_iff.mp hv).1) ((own_at r2).trans hv) (g := mkF m pc Ls (.int j :: .ref a :: rest)) rfl rfl (hb hby hd) target K
theorem own_laload {v : Value} {target : State} (C : OwnCx p Z s m meth c own nm bytes maxL rt) (P : OwnPos p l e R s m args below meth c Z ws h0 T h cells slots)
    (F : OwnAry Z h a k .long vs) (h1 : ¬ j < 0) (hv : vs[j.toNatClampNeg]? = some v) (hd : decode bytes pc = .ok (.laload, 1))
    (K : Steps p.tables e below (T.setTop (mkF m (pc + 1) Ls (v :: rest))) target) : Steps p.tables e below (T.setTop (mkF m pc Ls (.int j :: .ref a :: rest))) target := by
  obtain ⟨hx, hZ, hown, hnm, hby, hml, hret, hlk⟩ := C
  obtain ⟨locs, X, eT, e0, N, E0, G0⟩ := P
  obtain ⟨c0, A0, r1, r2⟩ := F
  exact X.laload hx (j := j) (v := v) (by rw [eT]; exact A0.1) (State.isArrayOf_alike hZ.alike A0.2.1) A0.2.2 (own_in r2 h1 (List.getElem?_eq_some_iff.mp hv).1) ((own_at r2).trans hv) (g := mkF m pc Ls (.int j :: .ref a :: rest)) rfl rfl (hb hby hd) target K
theorem own_caload {v : Value} {target : State} (C : OwnCx p Z s m meth c own nm bytes maxL rt) (P : OwnPos p l e R s m args below meth c Z ws h0 T h cells slots)
    (F : OwnAry Z h a k .char vs) (h1 : ¬ j < 0) (hv : vs[j.toNatClampNeg]? = some v) (hd : decode bytes pc = .ok (.caload, 1))
    (K : Steps p.tables e below (T.setTop (mkF m (pc + 1) Ls (v :: rest))) target) : Steps p.tables e below (T.setTop (mkF m pc Ls (.int j :: .ref a :: rest))) target := by
  obtain ⟨hx, hZ, hown, hnm, hby, hml, hret, hlk⟩ := C
  obtain ⟨locs, X, eT, e0, N, E0, G0⟩ := P
  obtain ⟨c0, A0, r1, r2⟩ := F
  exact X.caload hx (j := j) (v := v) (by rw [eT]; exact A0.1) (State.isArrayOf_alike hZ.alike A0.2.1) A0.2.2 (own_in r2 h1 (List.getElem?_eq_some_iff.mp hv).1) ((own_at r2).trans hv) (g := mkF m pc Ls (.int j :: .ref a :: rest)) rfl rfl (hb hby hd) target K
theorem own_baload {v : Value} {target : State} (C : OwnCx p Z s m meth c own nm bytes maxL rt) (P : OwnPos p l e R s m args below meth c Z ws h0 T h cells slots)
    (F : OwnAry Z h a k .byte vs) (h1 : ¬ j < 0) (hv : vs[j.toNatClampNeg]? = some v) (hd : decode bytes pc = .ok (.baload, 1))
    (K : Steps p.tables e below (T.setTop (mkF m (pc + 1) Ls (v :: rest))) target) : Steps p.tables e below (T.setTop (mkF m pc Ls (.int j :: .ref a :: rest))) target := by
  obtain ⟨hx, hZ, hown, hnm, hby, hml, hret, hlk⟩ := C
  obtain ⟨locs, X, eT, e0, N, E0, G0⟩ := P
  obtain ⟨c0, A0, r1, r2⟩ := F
  exact X.baloadBytes hx (j := j) (v := v) (by rw [eT]; exact A0.1) (State.isArrayOf_alike hZ.alike A0.2.1) A0.2.2 (own_in r2 h1 (List.getElem?_eq_some_iff.mp hv).1) ((own_at r2).trans hv) (g := mkF m pc Ls (.int j :: .ref a :: rest)) rfl rfl (hb hby hd) target K
theorem own_aaload {v : Value} {target : State} (C : OwnCx p Z s m meth c own nm bytes maxL rt) (P : OwnPos p l e R s m args below meth c Z ws h0 T h cells slots)
    (F : OwnAry Z h a k ty vs) (hty : ty.isReference = true) (h1 : ¬ j < 0) (hv : vs[j.toNatClampNeg]? = some v) (hd : decode bytes pc = .ok (.aaload, 1))
    (K : Steps p.tables e below (T.setTop (mkF m (pc + 1) Ls (v :: rest))) target) : Steps p.tables e below (T.setTop (mkF m pc Ls (.int j :: .ref a :: rest))) target := by
  obtain ⟨hx, hZ, hown, hnm, hby, hml, hret, hlk⟩ := C
  obtain ⟨locs, X, eT, e0, N, E0, G0⟩ := P
  obtain ⟨c0, A0, r1, r2⟩ := F
  exact X.aaload hx (j := j) (v := v) (by rw [eT]; exact A0.1) (State.isArrayOf_alike hZ.alike A0.2.1) hty A0.2.2 (own_in r2 h1 (List.getElem?_eq_some_iff.mp hv).1) ((own_at r2).trans hv) (g := mkF m pc Ls (.int j :: .ref a :: rest)) rfl rfl (hb hby hd) target K
theorem own_alen {target : State} (C : OwnCx p Z s m meth c own nm bytes maxL rt) (P : OwnPos p l e R s m args below meth c Z ws h0 T h cells slots)
    (F : OwnAry Z h a k ty vs) (hd : decode bytes pc = .ok (.arraylength, 1))
    (K : Steps p.tables e below (T.setTop (mkF m (pc + 1) Ls (.int vs.length.toInt32 :: rest))) target) : Steps p.tables e below (T.setTop (mkF m pc Ls (.ref a :: rest))) target := by
  obtain ⟨hx, hZ, hown, hnm, hby, hml, hret, hlk⟩ := C
  obtain ⟨locs, X, eT, e0, N, E0, G0⟩ := P
  obtain ⟨c0, A0, r1, r2⟩ := F
  have e1 : c0.slots.size = vs.length := by rw [← r2]; simp
  exact X.arraylength hx (by rw [eT]; exact A0.1) (State.isArrayOf_alike hZ.alike A0.2.1) (g := mkF m pc Ls (.ref a :: rest)) rfl rfl (hb hby hd) target (by rw [e1]; exact K)
end Ary
end Own

theorem pd_0 : parseMethodDescriptor "(I)Lcom/example/tidx/tidx/value/Type;" = some ⟨[.int], some (.object "com/example/tidx/tidx/value/Type")⟩ := by decide +kernel
theorem own_fstart {s : State} {args : Array Value} {t : Term} {C n d : String} {a : Addr} {k : Int32} (ht : t.eval args s none [] s = some (.ref a)) (h : (Cond.eq (.field t C n d) (.int k)).value args s none s [] = some true) : Fld s s.heap a C n d (.int k) := by
  obtain ⟨x, y, ex, ey, -, kin⟩ := cmp_v (Or.inl h)
  cases ey
  obtain ⟨z, rfl⟩ := kin
  obtain rfl : z = k := gotT (Cond.eq_ints ex rfl) h
  exact Fld.start ((fld_at ht).symm.trans ex)
def own_sel (k q : Int32) (r : Addr) (v : Value) : Value := if k = q then .ref r else v
theorem own_selR {k q : Int32} {r : Addr} {v : Value} (h : v.isRef = true) : (own_sel k q r v).isRef = true := by
  unfold own_sel; split
  · rfl
  · exact h
def own_exp (q : Int32) (b0 b1 b3 b4 b5 b6 : Addr) : Value := if q = 4 then .ref b0 else if q = -5 then .ref b1 else if q = 12 then .ref b6 else if q = 16 then .ref b3 else if q = 8 then .ref b4 else if q = 5 then .ref b5 else .null
theorem own_expR (q : Int32) (b0 b1 b3 b4 b5 b6 : Addr) : (own_exp q b0 b1 b3 b4 b5 b6).isRef = true := by
  unfold own_exp; repeat' split
  all_goals rfl
theorem own_same (q : Int32) (b0 b1 b2 b3 b4 b5 b6 : Addr) : own_sel 12 q b6 (own_sel 5 q b5 (own_sel 8 q b4 (own_sel 16 q b3 (own_sel 12 q b2 (own_sel (-5) q b1 (own_sel 4 q b0 .null)))))) = own_exp q b0 b1 b3 b4 b5 b6 := by
  unfold own_sel own_exp
  by_cases h0 : q = 4
  · subst h0; rfl
  by_cases h1 : q = -5
  · subst h1; rfl
  by_cases h2 : q = 12
  · subst h2; rfl
  by_cases h3 : q = 16
  · subst h3; rfl
  by_cases h4 : q = 8
  · subst h4; rfl
  by_cases h5 : q = 5
  · subst h5; rfl
  simp only [h0, h1, h2, h3, h4, h5, if_false, Ne.symm h0, Ne.symm h1, Ne.symm h2, Ne.symm h3, Ne.symm h4, Ne.symm h5]
theorem own_code {vs : List Int32} {k : Int32} (h1 : ¬ k < 0) (h2 : k.toNatClampNeg < vs.length) : ∃ z : Int32, (vs.map Value.int)[k.toNatClampNeg]? = some (.int z) := by
  exact ⟨vs[k.toNatClampNeg], by simp [h2]⟩
theorem own_k15 (x : Int32) (h : ¬ x &&& 15 = 15) : ¬ x &&& 15 < 0 ∧ (x &&& 15).toNatClampNeg < 15 := by
  have h1 := c_and x 15 (by decide)
  have e1 : (15 : Int32).toInt = 15 := by decide
  have e0 : (0 : Int32).toInt = 0 := by decide
  have h2 : (x &&& 15).toInt ≠ 15 := fun q => h (Int32.toInt_inj.mp (q.trans e1.symm))
  refine ⟨by rw [Int32.lt_iff_toInt_lt]; omega, ?_⟩
  rw [Int32.toNatClampNeg]
  omega
theorem own_elem {s : State} {args : Array Value} {t u : Term} {a b : Addr} {c : Cell} {j : Int32} (ht : t.eval args s none [] s = some (.ref a)) (hu : u.eval args s none [] s = some (.ref b)) (hc : s.heap[a]? = some c) (h : (Cond.eq (.elem t (.int j)) u).value args s none s [] = some true) : c.slots[j.toNatClampNeg]? = some (.ref b) := by
  obtain ⟨x, y, ex, ey, k1, k2⟩ := cmp_v (Or.inl h)
  cases hu.symm.trans ey
  have hr : x.isRef = true := k2.2
  have e := gotT (eq_R ex hu hr rfl) h
  subst e
  exact (elem_in ex ht rfl hc).2
theorem own_seven {s : State} {args : Array Value} {t : Term} {a : Addr} {c : Cell} {ty : FieldType} (ht : t.eval args s none [] s = some (.ref a)) (A : Arr s s.heap a c ty) (h : (Cond.eq (.length t) (.int 7)).value args s none s [] = some true) : c.slots.size = 7 := by
  have ha : s.arrayAt? a = some c := A.fin (Vm.Alike.refl _)
  by_cases hl : c.slots.size < 2 ^ 31
  · have q := congrArg Int32.toInt (gotT (Cond.eq_ints (len_f ht ha hl) rfl) h)
    rw [len_toInt hl] at q
    have e7 : (7 : Int32).toInt = 7 := by decide
    rw [e7] at q
    omega
  · exfalso
    have e : (Term.length t).eval args s none [] s = none := by simp [Term.eval, ht, ha, hl]
    simp [Cond.value, e] at h
theorem d1_0 : decode prog_194_method_7_code 0 = .ok (.aconst_null, 1) := by decide +kernel
theorem d1_1 : decode prog_194_method_7_code 1 = .ok (.astore_n 1, 1) := by decide +kernel
theorem d1_2 : decode prog_194_method_7_code 2 = .ok (.getstatic 69, 3) := by decide +kernel
theorem d1_5 : decode prog_194_method_7_code 5 = .ok (.astore_n 2, 1) := by decide +kernel
theorem d1_6 : decode prog_194_method_7_code 6 = .ok (.aload_n 2, 1) := by decide +kernel
theorem d1_7 : decode prog_194_method_7_code 7 = .ok (.arraylength, 1) := by decide +kernel
theorem d1_8 : decode prog_194_method_7_code 8 = .ok (.istore_n 3, 1) := by decide +kernel
theorem d1_9 : decode prog_194_method_7_code 9 = .ok (.iconst 0, 1) := by decide +kernel
theorem d1_10 : decode prog_194_method_7_code 10 = .ok (.istore 4, 2) := by decide +kernel
theorem d1_12 : decode prog_194_method_7_code 12 = .ok (.iload 4, 2) := by decide +kernel
theorem d1_14 : decode prog_194_method_7_code 14 = .ok (.iload_n 3, 1) := by decide +kernel
theorem d1_15 : decode prog_194_method_7_code 15 = .ok (.if_icmp .ge 27, 3) := by decide +kernel
theorem d1_18 : decode prog_194_method_7_code 18 = .ok (.aload_n 2, 1) := by decide +kernel
theorem d1_19 : decode prog_194_method_7_code 19 = .ok (.iload 4, 2) := by decide +kernel
theorem d1_21 : decode prog_194_method_7_code 21 = .ok (.aaload, 1) := by decide +kernel
theorem d1_22 : decode prog_194_method_7_code 22 = .ok (.astore 5, 2) := by decide +kernel
theorem d1_24 : decode prog_194_method_7_code 24 = .ok (.aload 5, 2) := by decide +kernel
theorem d1_26 : decode prog_194_method_7_code 26 = .ok (.getfield 52, 3) := by decide +kernel
theorem d1_29 : decode prog_194_method_7_code 29 = .ok (.iload_n 0, 1) := by decide +kernel
theorem d1_30 : decode prog_194_method_7_code 30 = .ok (.if_icmp .ne 6, 3) := by decide +kernel
theorem d1_33 : decode prog_194_method_7_code 33 = .ok (.aload 5, 2) := by decide +kernel
theorem d1_35 : decode prog_194_method_7_code 35 = .ok (.astore_n 1, 1) := by decide +kernel
theorem d1_36 : decode prog_194_method_7_code 36 = .ok (.iinc 4 1, 3) := by decide +kernel
theorem d1_39 : decode prog_194_method_7_code 39 = .ok (.goto (-27), 3) := by decide +kernel
theorem d1_42 : decode prog_194_method_7_code 42 = .ok (.aload_n 1, 1) := by decide +kernel
theorem d1_43 : decode prog_194_method_7_code 43 = .ok (.areturn, 1) := by decide +kernel
theorem pn1 : plainName "com/example/tidx/tidx/value/Type" = true := by first | (simp [plainName, overriddenIn]; done) | decide +kernel
theorem ef1 (m : MethodId) (q : Int32)  : entryFrame m #[(.int q)] 6 = mkF m 0 #[.val (.int q), .unset, .unset, .unset, .unset, .unset] [] := by first | (simp [entryFrame, mkF, argsToLocals, Value.category]; done) | rfl
set_option maxRecDepth 65536 in
set_option maxHeartbeats 40000000 in
theorem rm1 (l : Launch) (Z : State) (a0 : Array Value) (hw : ∀ d ∈ tables_1, d.before a0 Z = true) (q : Int32)  (h0 : Heap) (hE : Ext Z.heap h0)  (ta : Addr) (tk : ClassId) (b0 b1 b2 b3 b4 b5 b6 : Addr) (ST : Sta Z Z.heap "com/example/tidx/tidx/value/Type" "TYPES" "[Lcom/example/tidx/tidx/value/Type;" (.ref ta)) (YZ : OwnAry Z Z.heap ta tk (.object "com/example/tidx/tidx/value/Type") [(.ref b0), (.ref b1), (.ref b2), (.ref b3), (.ref b4), (.ref b5), (.ref b6)]) (F0 : Fld Z Z.heap b0 "com/example/tidx/tidx/value/Type" "jdbcType" "I" (.int (4))) (F1 : Fld Z Z.heap b1 "com/example/tidx/tidx/value/Type" "jdbcType" "I" (.int (-5))) (F2 : Fld Z Z.heap b2 "com/example/tidx/tidx/value/Type" "jdbcType" "I" (.int (12))) (F3 : Fld Z Z.heap b3 "com/example/tidx/tidx/value/Type" "jdbcType" "I" (.int (16))) (F4 : Fld Z Z.heap b4 "com/example/tidx/tidx/value/Type" "jdbcType" "I" (.int (8))) (F5 : Fld Z Z.heap b5 "com/example/tidx/tidx/value/Type" "jdbcType" "I" (.int (5))) (F6 : Fld Z Z.heap b6 "com/example/tidx/tidx/value/Type" "jdbcType" "I" (.int (12))) :
    OwnMeets l (⟨"com/example/tidx/tidx/value/Type", "ofJdbcType", "(I)Lcom/example/tidx/tidx/value/Type;"⟩ : MethodName) prog_194_method_7_code 6 (some (.object "com/example/tidx/tidx/value/Type")) ({ frames := 0, cells := 0, slots := 0, locals := 0 } : Room) Z [] #[(.int q)] h0 (fun v h => v = some (own_sel (12) q b6 (own_sel (5) q b5 (own_sel (8) q b4 (own_sel (16) q b3 (own_sel (12) q b2 (own_sel (-5) q b1 (own_sel (4) q b0 .null))))))) ∧ h0 = h) := by
  refine OwnMeets.of (plainFor_of_name pn1) hE all0 ?_
  intro p e s m below meth c T C P
  have hx := C.1
  have hby := C.2.2.2.2.1
  rw [show entryFrame m #[(.int q)] 6 = _ from ef1 m q]
  have Y0 := YZ.ext hE
  show OwnDone p e below _ (T.setTop (mkF m 0 #[.val (.int q), .unset, .unset, .unset, .unset, .unset] []))
  refine OwnDone.go (A := (T.setTop (mkF m 2 #[.val (.int q), .val .null, .unset, .unset, .unset, .unset] []))) (fun tQ kQ => ?_) ?_
  · refine XS.aconstNull P.here hx rfl (hb hby d1_0) ?_
    show Steps p.tables e below (T.setTop (mkF m 1 #[.val (.int q), .unset, .unset, .unset, .unset, .unset] [.null])) _
    refine XS.astoreN P.here hx rfl (hb hby d1_1) rfl rfl (l' := #[.val (.int q), .val .null, .unset, .unset, .unset, .unset]) rfl ?_
    show Steps p.tables e below (T.setTop (mkF m 2 #[.val (.int q), .val .null, .unset, .unset, .unset, .unset] [])) _
    exact kQ
  show OwnDone p e below _ (T.setTop (mkF m 2 #[.val (.int q), .val .null, .unset, .unset, .unset, .unset] []))
  refine own_getS C P (host := "") (Or.inl (hw _ (List.mem_of_getElem? (i := 5) rfl))) Via.refl ST d1_2 (fun T1 P1 => ?_)
  show OwnDone p e below _ (T1.setTop (mkF m 5 #[.val (.int q), .val .null, .unset, .unset, .unset, .unset] [(.ref ta)]))
  refine OwnDone.go (A := (T1.setTop (mkF m 15 #[.val (.int q), .val .null, .val (.ref ta), .val (.int (7 : Int32)), .val (.int (0 : Int32)), .unset] [(.int (7 : Int32)), (.int (0 : Int32))]))) (fun tQ kQ => ?_) ?_
  · refine XS.astoreN P1.here hx rfl (hb hby d1_5) rfl rfl (l' := #[.val (.int q), .val .null, .val (.ref ta), .unset, .unset, .unset]) rfl ?_
    show Steps p.tables e below (T1.setTop (mkF m 6 #[.val (.int q), .val .null, .val (.ref ta), .unset, .unset, .unset] [])) _
    refine XS.aloadN P1.here hx rfl (hb hby d1_6) rfl rfl ?_
    show Steps p.tables e below (T1.setTop (mkF m 7 #[.val (.int q), .val .null, .val (.ref ta), .unset, .unset, .unset] [(.ref ta)])) _
    refine own_alen C P1 Y0 d1_7 ?_
    show Steps p.tables e below (T1.setTop (mkF m 8 #[.val (.int q), .val .null, .val (.ref ta), .unset, .unset, .unset] [(.int (7 : Int32))])) _
    refine XS.istoreN P1.here hx rfl (hb hby d1_8) rfl (l' := #[.val (.int q), .val .null, .val (.ref ta), .val (.int (7 : Int32)), .unset, .unset]) rfl ?_
    show Steps p.tables e below (T1.setTop (mkF m 9 #[.val (.int q), .val .null, .val (.ref ta), .val (.int (7 : Int32)), .unset, .unset] [])) _
    refine XS.iconst P1.here hx rfl (hb hby d1_9) ?_
    show Steps p.tables e below (T1.setTop (mkF m 10 #[.val (.int q), .val .null, .val (.ref ta), .val (.int (7 : Int32)), .unset, .unset] [(.int (0 : Int32))])) _
    refine XS.istore P1.here hx rfl (hb hby d1_10) rfl (l' := #[.val (.int q), .val .null, .val (.ref ta), .val (.int (7 : Int32)), .val (.int (0 : Int32)), .unset]) rfl ?_
    show Steps p.tables e below (T1.setTop (mkF m 12 #[.val (.int q), .val .null, .val (.ref ta), .val (.int (7 : Int32)), .val (.int (0 : Int32)), .unset] [])) _
    refine XS.iload P1.here hx rfl (hb hby d1_12) rfl ?_
    show Steps p.tables e below (T1.setTop (mkF m 14 #[.val (.int q), .val .null, .val (.ref ta), .val (.int (7 : Int32)), .val (.int (0 : Int32)), .unset] [(.int (0 : Int32))])) _
    refine XS.iloadN P1.here hx rfl (hb hby d1_14) rfl ?_
    show Steps p.tables e below (T1.setTop (mkF m 15 #[.val (.int q), .val .null, .val (.ref ta), .val (.int (7 : Int32)), .val (.int (0 : Int32)), .unset] [(.int (7 : Int32)), (.int (0 : Int32))])) _
    exact kQ
  show OwnDone p e below _ (T1.setTop (mkF m 15 #[.val (.int q), .val .null, .val (.ref ta), .val (.int (7 : Int32)), .val (.int (0 : Int32)), .unset] [(.int (7 : Int32)), (.int (0 : Int32))]))
  refine OwnDone.go (A := (T1.setTop (mkF m 18 #[.val (.int q), .val .null, .val (.ref ta), .val (.int (7 : Int32)), .val (.int (0 : Int32)), .unset] []))) (fun tQ kQ => XS.icmpNo P1.here hx rfl (hb hby d1_15) rfl (XT.ii_ge_f (by decide)) kQ) ?_
  show OwnDone p e below _ (T1.setTop (mkF m 18 #[.val (.int q), .val .null, .val (.ref ta), .val (.int (7 : Int32)), .val (.int (0 : Int32)), .unset] []))
  refine OwnDone.go (A := (T1.setTop (mkF m 26 #[.val (.int q), .val .null, .val (.ref ta), .val (.int (7 : Int32)), .val (.int (0 : Int32)), .val (.ref b0)] [(.ref b0)]))) (fun tQ kQ => ?_) ?_
  · refine XS.aloadN P1.here hx rfl (hb hby d1_18) rfl rfl ?_
    show Steps p.tables e below (T1.setTop (mkF m 19 #[.val (.int q), .val .null, .val (.ref ta), .val (.int (7 : Int32)), .val (.int (0 : Int32)), .unset] [(.ref ta)])) _
    refine XS.iload P1.here hx rfl (hb hby d1_19) rfl ?_
    show Steps p.tables e below (T1.setTop (mkF m 21 #[.val (.int q), .val .null, .val (.ref ta), .val (.int (7 : Int32)), .val (.int (0 : Int32)), .unset] [(.int (0 : Int32)), (.ref ta)])) _
    refine own_aaload C P1 Y0 rfl (by decide) rfl d1_21 ?_
    show Steps p.tables e below (T1.setTop (mkF m 22 #[.val (.int q), .val .null, .val (.ref ta), .val (.int (7 : Int32)), .val (.int (0 : Int32)), .unset] [(.ref b0)])) _
    refine XS.astore P1.here hx rfl (hb hby d1_22) rfl rfl (l' := #[.val (.int q), .val .null, .val (.ref ta), .val (.int (7 : Int32)), .val (.int (0 : Int32)), .val (.ref b0)]) rfl ?_
    show Steps p.tables e below (T1.setTop (mkF m 24 #[.val (.int q), .val .null, .val (.ref ta), .val (.int (7 : Int32)), .val (.int (0 : Int32)), .val (.ref b0)] [])) _
    refine XS.aload P1.here hx rfl (hb hby d1_24) rfl rfl ?_
    show Steps p.tables e below (T1.setTop (mkF m 26 #[.val (.int q), .val .null, .val (.ref ta), .val (.int (7 : Int32)), .val (.int (0 : Int32)), .val (.ref b0)] [(.ref b0)])) _
    exact kQ
  show OwnDone p e below _ (T1.setTop (mkF m 26 #[.val (.int q), .val .null, .val (.ref ta), .val (.int (7 : Int32)), .val (.int (0 : Int32)), .val (.ref b0)] [(.ref b0)]))
  refine own_getF C P1 (host := "") (Or.inl (hw _ (List.mem_of_getElem? (i := 8) rfl))) Via.refl (F0.ext hE) d1_26 (fun T2 P2 => ?_)
  show OwnDone p e below _ (T2.setTop (mkF m 29 #[.val (.int q), .val .null, .val (.ref ta), .val (.int (7 : Int32)), .val (.int (0 : Int32)), .val (.ref b0)] [(.int (4 : Int32))]))
  refine OwnDone.go (A := (T2.setTop (mkF m 30 #[.val (.int q), .val .null, .val (.ref ta), .val (.int (7 : Int32)), .val (.int (0 : Int32)), .val (.ref b0)] [(.int q), (.int (4 : Int32))]))) (fun tQ kQ => ?_) ?_
  · refine XS.iloadN P2.here hx rfl (hb hby d1_29) rfl ?_
    show Steps p.tables e below (T2.setTop (mkF m 30 #[.val (.int q), .val .null, .val (.ref ta), .val (.int (7 : Int32)), .val (.int (0 : Int32)), .val (.ref b0)] [(.int q), (.int (4 : Int32))])) _
    exact kQ
  show OwnDone p e below _ (T2.setTop (mkF m 30 #[.val (.int q), .val .null, .val (.ref ta), .val (.int (7 : Int32)), .val (.int (0 : Int32)), .val (.ref b0)] [(.int q), (.int (4 : Int32))]))
  suffices K3 : ∀ zz3 : Value, zz3 = (own_sel (4) q b0 .null) → OwnDone p e below _ (T2.setTop (mkF m 36 #[.val (.int q), .val zz3, .val (.ref ta), .val (.int (7 : Int32)), .val (.int (0 : Int32)), .val (.ref b0)] [])) from by
    by_cases hc30 : (4 : Int32) = q
    · refine OwnDone.go (A := (T2.setTop (mkF m 33 #[.val (.int q), .val .null, .val (.ref ta), .val (.int (7 : Int32)), .val (.int (0 : Int32)), .val (.ref b0)] []))) (fun tQ kQ => XS.icmpNo P2.here hx rfl (hb hby d1_30) rfl (XT.ii_ne_f hc30) kQ) ?_
      show OwnDone p e below _ (T2.setTop (mkF m 33 #[.val (.int q), .val .null, .val (.ref ta), .val (.int (7 : Int32)), .val (.int (0 : Int32)), .val (.ref b0)] []))
      refine OwnDone.go (A := (T2.setTop (mkF m 36 #[.val (.int q), .val (.ref b0), .val (.ref ta), .val (.int (7 : Int32)), .val (.int (0 : Int32)), .val (.ref b0)] []))) (fun tQ kQ => ?_) ?_
      · refine XS.aload P2.here hx rfl (hb hby d1_33) rfl rfl ?_
        show Steps p.tables e below (T2.setTop (mkF m 35 #[.val (.int q), .val .null, .val (.ref ta), .val (.int (7 : Int32)), .val (.int (0 : Int32)), .val (.ref b0)] [(.ref b0)])) _
        refine XS.astoreN P2.here hx rfl (hb hby d1_35) rfl rfl (l' := #[.val (.int q), .val (.ref b0), .val (.ref ta), .val (.int (7 : Int32)), .val (.int (0 : Int32)), .val (.ref b0)]) rfl ?_
        show Steps p.tables e below (T2.setTop (mkF m 36 #[.val (.int q), .val (.ref b0), .val (.ref ta), .val (.int (7 : Int32)), .val (.int (0 : Int32)), .val (.ref b0)] [])) _
        exact kQ
      show OwnDone p e below _ (T2.setTop (mkF m 36 #[.val (.int q), .val (.ref b0), .val (.ref ta), .val (.int (7 : Int32)), .val (.int (0 : Int32)), .val (.ref b0)] []))
      exact K3 _ (show ((own_sel (4) q b0 .null) : Value) = (.ref b0) from by unfold own_sel; simp only [hc30, if_true, if_false]).symm
    · refine OwnDone.go (A := (T2.setTop (mkF m 36 #[.val (.int q), .val .null, .val (.ref ta), .val (.int (7 : Int32)), .val (.int (0 : Int32)), .val (.ref b0)] []))) (fun tQ kQ => XS.icmpYes P2.here hx rfl (pc0 := 30) (pc' := 36) rfl (hb hby d1_30) rfl (XT.ii_ne_t hc30) (by decide) (by decide) kQ) ?_
      show OwnDone p e below _ (T2.setTop (mkF m 36 #[.val (.int q), .val .null, .val (.ref ta), .val (.int (7 : Int32)), .val (.int (0 : Int32)), .val (.ref b0)] []))
      exact K3 _ (show ((own_sel (4) q b0 .null) : Value) = .null from by unfold own_sel; simp only [hc30, if_true, if_false]).symm
  intro zz3 hzz3
  subst hzz3
  show OwnDone p e below _ (T2.setTop (mkF m 36 #[.val (.int q), .val (own_sel (4) q b0 .null), .val (.ref ta), .val (.int (7 : Int32)), .val (.int (0 : Int32)), .val (.ref b0)] []))
  refine OwnDone.go (A := (T2.setTop (mkF m 15 #[.val (.int q), .val (own_sel (4) q b0 .null), .val (.ref ta), .val (.int (7 : Int32)), .val (.int (1 : Int32)), .val (.ref b0)] [(.int (7 : Int32)), (.int (1 : Int32))]))) (fun tQ kQ => ?_) ?_
  · refine XS.iinc P2.here hx rfl (hb hby d1_36) rfl (l' := #[.val (.int q), .val (own_sel (4) q b0 .null), .val (.ref ta), .val (.int (7 : Int32)), .val (.int (1 : Int32)), .val (.ref b0)]) rfl ?_
    show Steps p.tables e below (T2.setTop (mkF m 39 #[.val (.int q), .val (own_sel (4) q b0 .null), .val (.ref ta), .val (.int (7 : Int32)), .val (.int (1 : Int32)), .val (.ref b0)] [])) _
    refine XS.goto P2.here hx rfl (pc0 := 39) (pc' := 12) rfl (hb hby d1_39) (by decide) (by decide) ?_
    show Steps p.tables e below (T2.setTop (mkF m 12 #[.val (.int q), .val (own_sel (4) q b0 .null), .val (.ref ta), .val (.int (7 : Int32)), .val (.int (1 : Int32)), .val (.ref b0)] [])) _
    refine XS.iload P2.here hx rfl (hb hby d1_12) rfl ?_
    show Steps p.tables e below (T2.setTop (mkF m 14 #[.val (.int q), .val (own_sel (4) q b0 .null), .val (.ref ta), .val (.int (7 : Int32)), .val (.int (1 : Int32)), .val (.ref b0)] [(.int (1 : Int32))])) _
    refine XS.iloadN P2.here hx rfl (hb hby d1_14) rfl ?_
    show Steps p.tables e below (T2.setTop (mkF m 15 #[.val (.int q), .val (own_sel (4) q b0 .null), .val (.ref ta), .val (.int (7 : Int32)), .val (.int (1 : Int32)), .val (.ref b0)] [(.int (7 : Int32)), (.int (1 : Int32))])) _
    exact kQ
  show OwnDone p e below _ (T2.setTop (mkF m 15 #[.val (.int q), .val (own_sel (4) q b0 .null), .val (.ref ta), .val (.int (7 : Int32)), .val (.int (1 : Int32)), .val (.ref b0)] [(.int (7 : Int32)), (.int (1 : Int32))]))
  refine OwnDone.go (A := (T2.setTop (mkF m 18 #[.val (.int q), .val (own_sel (4) q b0 .null), .val (.ref ta), .val (.int (7 : Int32)), .val (.int (1 : Int32)), .val (.ref b0)] []))) (fun tQ kQ => XS.icmpNo P2.here hx rfl (hb hby d1_15) rfl (XT.ii_ge_f (by decide)) kQ) ?_
  show OwnDone p e below _ (T2.setTop (mkF m 18 #[.val (.int q), .val (own_sel (4) q b0 .null), .val (.ref ta), .val (.int (7 : Int32)), .val (.int (1 : Int32)), .val (.ref b0)] []))
  refine OwnDone.go (A := (T2.setTop (mkF m 26 #[.val (.int q), .val (own_sel (4) q b0 .null), .val (.ref ta), .val (.int (7 : Int32)), .val (.int (1 : Int32)), .val (.ref b1)] [(.ref b1)]))) (fun tQ kQ => ?_) ?_
  · refine XS.aloadN P2.here hx rfl (hb hby d1_18) rfl rfl ?_
    show Steps p.tables e below (T2.setTop (mkF m 19 #[.val (.int q), .val (own_sel (4) q b0 .null), .val (.ref ta), .val (.int (7 : Int32)), .val (.int (1 : Int32)), .val (.ref b0)] [(.ref ta)])) _
    refine XS.iload P2.here hx rfl (hb hby d1_19) rfl ?_
    show Steps p.tables e below (T2.setTop (mkF m 21 #[.val (.int q), .val (own_sel (4) q b0 .null), .val (.ref ta), .val (.int (7 : Int32)), .val (.int (1 : Int32)), .val (.ref b0)] [(.int (1 : Int32)), (.ref ta)])) _
    refine own_aaload C P2 Y0 rfl (by decide) rfl d1_21 ?_
    show Steps p.tables e below (T2.setTop (mkF m 22 #[.val (.int q), .val (own_sel (4) q b0 .null), .val (.ref ta), .val (.int (7 : Int32)), .val (.int (1 : Int32)), .val (.ref b0)] [(.ref b1)])) _
    refine XS.astore P2.here hx rfl (hb hby d1_22) rfl rfl (l' := #[.val (.int q), .val (own_sel (4) q b0 .null), .val (.ref ta), .val (.int (7 : Int32)), .val (.int (1 : Int32)), .val (.ref b1)]) rfl ?_
    show Steps p.tables e below (T2.setTop (mkF m 24 #[.val (.int q), .val (own_sel (4) q b0 .null), .val (.ref ta), .val (.int (7 : Int32)), .val (.int (1 : Int32)), .val (.ref b1)] [])) _
    refine XS.aload P2.here hx rfl (hb hby d1_24) rfl rfl ?_
    show Steps p.tables e below (T2.setTop (mkF m 26 #[.val (.int q), .val (own_sel (4) q b0 .null), .val (.ref ta), .val (.int (7 : Int32)), .val (.int (1 : Int32)), .val (.ref b1)] [(.ref b1)])) _
    exact kQ
  show OwnDone p e below _ (T2.setTop (mkF m 26 #[.val (.int q), .val (own_sel (4) q b0 .null), .val (.ref ta), .val (.int (7 : Int32)), .val (.int (1 : Int32)), .val (.ref b1)] [(.ref b1)]))
  refine own_getF C P2 (host := "") (Or.inl (hw _ (List.mem_of_getElem? (i := 8) rfl))) Via.refl (F1.ext hE) d1_26 (fun T4 P4 => ?_)
  show OwnDone p e below _ (T4.setTop (mkF m 29 #[.val (.int q), .val (own_sel (4) q b0 .null), .val (.ref ta), .val (.int (7 : Int32)), .val (.int (1 : Int32)), .val (.ref b1)] [(.int (-5 : Int32))]))
  refine OwnDone.go (A := (T4.setTop (mkF m 30 #[.val (.int q), .val (own_sel (4) q b0 .null), .val (.ref ta), .val (.int (7 : Int32)), .val (.int (1 : Int32)), .val (.ref b1)] [(.int q), (.int (-5 : Int32))]))) (fun tQ kQ => ?_) ?_
  · refine XS.iloadN P4.here hx rfl (hb hby d1_29) rfl ?_
    show Steps p.tables e below (T4.setTop (mkF m 30 #[.val (.int q), .val (own_sel (4) q b0 .null), .val (.ref ta), .val (.int (7 : Int32)), .val (.int (1 : Int32)), .val (.ref b1)] [(.int q), (.int (-5 : Int32))])) _
    exact kQ
  show OwnDone p e below _ (T4.setTop (mkF m 30 #[.val (.int q), .val (own_sel (4) q b0 .null), .val (.ref ta), .val (.int (7 : Int32)), .val (.int (1 : Int32)), .val (.ref b1)] [(.int q), (.int (-5 : Int32))]))
  suffices K5 : ∀ zz5 : Value, zz5 = (own_sel (-5) q b1 (own_sel (4) q b0 .null)) → OwnDone p e below _ (T4.setTop (mkF m 36 #[.val (.int q), .val zz5, .val (.ref ta), .val (.int (7 : Int32)), .val (.int (1 : Int32)), .val (.ref b1)] [])) from by
    by_cases hc30 : (-5 : Int32) = q
    · refine OwnDone.go (A := (T4.setTop (mkF m 33 #[.val (.int q), .val (own_sel (4) q b0 .null), .val (.ref ta), .val (.int (7 : Int32)), .val (.int (1 : Int32)), .val (.ref b1)] []))) (fun tQ kQ => XS.icmpNo P4.here hx rfl (hb hby d1_30) rfl (XT.ii_ne_f hc30) kQ) ?_
      show OwnDone p e below _ (T4.setTop (mkF m 33 #[.val (.int q), .val (own_sel (4) q b0 .null), .val (.ref ta), .val (.int (7 : Int32)), .val (.int (1 : Int32)), .val (.ref b1)] []))
      refine OwnDone.go (A := (T4.setTop (mkF m 36 #[.val (.int q), .val (.ref b1), .val (.ref ta), .val (.int (7 : Int32)), .val (.int (1 : Int32)), .val (.ref b1)] []))) (fun tQ kQ => ?_) ?_
      · refine XS.aload P4.here hx rfl (hb hby d1_33) rfl rfl ?_
        show Steps p.tables e below (T4.setTop (mkF m 35 #[.val (.int q), .val (own_sel (4) q b0 .null), .val (.ref ta), .val (.int (7 : Int32)), .val (.int (1 : Int32)), .val (.ref b1)] [(.ref b1)])) _
        refine XT.astoreNS P4.here hx rfl (hb hby d1_35) rfl rfl rfl rfl (XT.slot1 (own_selR rfl)) ?_
        show Steps p.tables e below (T4.setTop (mkF m 36 #[.val (.int q), .val (.ref b1), .val (.ref ta), .val (.int (7 : Int32)), .val (.int (1 : Int32)), .val (.ref b1)] [])) _
        exact kQ
      show OwnDone p e below _ (T4.setTop (mkF m 36 #[.val (.int q), .val (.ref b1), .val (.ref ta), .val (.int (7 : Int32)), .val (.int (1 : Int32)), .val (.ref b1)] []))
      exact K5 _ (show ((own_sel (-5) q b1 (own_sel (4) q b0 .null)) : Value) = (.ref b1) from by unfold own_sel; simp only [hc30, if_true, if_false]).symm
    · refine OwnDone.go (A := (T4.setTop (mkF m 36 #[.val (.int q), .val (own_sel (4) q b0 .null), .val (.ref ta), .val (.int (7 : Int32)), .val (.int (1 : Int32)), .val (.ref b1)] []))) (fun tQ kQ => XS.icmpYes P4.here hx rfl (pc0 := 30) (pc' := 36) rfl (hb hby d1_30) rfl (XT.ii_ne_t hc30) (by decide) (by decide) kQ) ?_
      show OwnDone p e below _ (T4.setTop (mkF m 36 #[.val (.int q), .val (own_sel (4) q b0 .null), .val (.ref ta), .val (.int (7 : Int32)), .val (.int (1 : Int32)), .val (.ref b1)] []))
      exact K5 _ (show ((own_sel (-5) q b1 (own_sel (4) q b0 .null)) : Value) = (own_sel (4) q b0 .null) from by unfold own_sel; simp only [hc30, if_true, if_false]).symm
  intro zz5 hzz5
  subst hzz5
  show OwnDone p e below _ (T4.setTop (mkF m 36 #[.val (.int q), .val (own_sel (-5) q b1 (own_sel (4) q b0 .null)), .val (.ref ta), .val (.int (7 : Int32)), .val (.int (1 : Int32)), .val (.ref b1)] []))
  refine OwnDone.go (A := (T4.setTop (mkF m 15 #[.val (.int q), .val (own_sel (-5) q b1 (own_sel (4) q b0 .null)), .val (.ref ta), .val (.int (7 : Int32)), .val (.int (2 : Int32)), .val (.ref b1)] [(.int (7 : Int32)), (.int (2 : Int32))]))) (fun tQ kQ => ?_) ?_
  · refine XS.iinc P4.here hx rfl (hb hby d1_36) rfl (l' := #[.val (.int q), .val (own_sel (-5) q b1 (own_sel (4) q b0 .null)), .val (.ref ta), .val (.int (7 : Int32)), .val (.int (2 : Int32)), .val (.ref b1)]) rfl ?_
    show Steps p.tables e below (T4.setTop (mkF m 39 #[.val (.int q), .val (own_sel (-5) q b1 (own_sel (4) q b0 .null)), .val (.ref ta), .val (.int (7 : Int32)), .val (.int (2 : Int32)), .val (.ref b1)] [])) _
    refine XS.goto P4.here hx rfl (pc0 := 39) (pc' := 12) rfl (hb hby d1_39) (by decide) (by decide) ?_
    show Steps p.tables e below (T4.setTop (mkF m 12 #[.val (.int q), .val (own_sel (-5) q b1 (own_sel (4) q b0 .null)), .val (.ref ta), .val (.int (7 : Int32)), .val (.int (2 : Int32)), .val (.ref b1)] [])) _
    refine XS.iload P4.here hx rfl (hb hby d1_12) rfl ?_
    show Steps p.tables e below (T4.setTop (mkF m 14 #[.val (.int q), .val (own_sel (-5) q b1 (own_sel (4) q b0 .null)), .val (.ref ta), .val (.int (7 : Int32)), .val (.int (2 : Int32)), .val (.ref b1)] [(.int (2 : Int32))])) _
    refine XS.iloadN P4.here hx rfl (hb hby d1_14) rfl ?_
    show Steps p.tables e below (T4.setTop (mkF m 15 #[.val (.int q), .val (own_sel (-5) q b1 (own_sel (4) q b0 .null)), .val (.ref ta), .val (.int (7 : Int32)), .val (.int (2 : Int32)), .val (.ref b1)] [(.int (7 : Int32)), (.int (2 : Int32))])) _
    exact kQ
  show OwnDone p e below _ (T4.setTop (mkF m 15 #[.val (.int q), .val (own_sel (-5) q b1 (own_sel (4) q b0 .null)), .val (.ref ta), .val (.int (7 : Int32)), .val (.int (2 : Int32)), .val (.ref b1)] [(.int (7 : Int32)), (.int (2 : Int32))]))
  refine OwnDone.go (A := (T4.setTop (mkF m 18 #[.val (.int q), .val (own_sel (-5) q b1 (own_sel (4) q b0 .null)), .val (.ref ta), .val (.int (7 : Int32)), .val (.int (2 : Int32)), .val (.ref b1)] []))) (fun tQ kQ => XS.icmpNo P4.here hx rfl (hb hby d1_15) rfl (XT.ii_ge_f (by decide)) kQ) ?_
  show OwnDone p e below _ (T4.setTop (mkF m 18 #[.val (.int q), .val (own_sel (-5) q b1 (own_sel (4) q b0 .null)), .val (.ref ta), .val (.int (7 : Int32)), .val (.int (2 : Int32)), .val (.ref b1)] []))
  refine OwnDone.go (A := (T4.setTop (mkF m 26 #[.val (.int q), .val (own_sel (-5) q b1 (own_sel (4) q b0 .null)), .val (.ref ta), .val (.int (7 : Int32)), .val (.int (2 : Int32)), .val (.ref b2)] [(.ref b2)]))) (fun tQ kQ => ?_) ?_
  · refine XS.aloadN P4.here hx rfl (hb hby d1_18) rfl rfl ?_
    show Steps p.tables e below (T4.setTop (mkF m 19 #[.val (.int q), .val (own_sel (-5) q b1 (own_sel (4) q b0 .null)), .val (.ref ta), .val (.int (7 : Int32)), .val (.int (2 : Int32)), .val (.ref b1)] [(.ref ta)])) _
    refine XS.iload P4.here hx rfl (hb hby d1_19) rfl ?_
    show Steps p.tables e below (T4.setTop (mkF m 21 #[.val (.int q), .val (own_sel (-5) q b1 (own_sel (4) q b0 .null)), .val (.ref ta), .val (.int (7 : Int32)), .val (.int (2 : Int32)), .val (.ref b1)] [(.int (2 : Int32)), (.ref ta)])) _
    refine own_aaload C P4 Y0 rfl (by decide) rfl d1_21 ?_
    show Steps p.tables e below (T4.setTop (mkF m 22 #[.val (.int q), .val (own_sel (-5) q b1 (own_sel (4) q b0 .null)), .val (.ref ta), .val (.int (7 : Int32)), .val (.int (2 : Int32)), .val (.ref b1)] [(.ref b2)])) _
    refine XS.astore P4.here hx rfl (hb hby d1_22) rfl rfl (l' := #[.val (.int q), .val (own_sel (-5) q b1 (own_sel (4) q b0 .null)), .val (.ref ta), .val (.int (7 : Int32)), .val (.int (2 : Int32)), .val (.ref b2)]) rfl ?_
    show Steps p.tables e below (T4.setTop (mkF m 24 #[.val (.int q), .val (own_sel (-5) q b1 (own_sel (4) q b0 .null)), .val (.ref ta), .val (.int (7 : Int32)), .val (.int (2 : Int32)), .val (.ref b2)] [])) _
    refine XS.aload P4.here hx rfl (hb hby d1_24) rfl rfl ?_
    show Steps p.tables e below (T4.setTop (mkF m 26 #[.val (.int q), .val (own_sel (-5) q b1 (own_sel (4) q b0 .null)), .val (.ref ta), .val (.int (7 : Int32)), .val (.int (2 : Int32)), .val (.ref b2)] [(.ref b2)])) _
    exact kQ
  show OwnDone p e below _ (T4.setTop (mkF m 26 #[.val (.int q), .val (own_sel (-5) q b1 (own_sel (4) q b0 .null)), .val (.ref ta), .val (.int (7 : Int32)), .val (.int (2 : Int32)), .val (.ref b2)] [(.ref b2)]))
  refine own_getF C P4 (host := "") (Or.inl (hw _ (List.mem_of_getElem? (i := 8) rfl))) Via.refl (F2.ext hE) d1_26 (fun T6 P6 => ?_)
  show OwnDone p e below _ (T6.setTop (mkF m 29 #[.val (.int q), .val (own_sel (-5) q b1 (own_sel (4) q b0 .null)), .val (.ref ta), .val (.int (7 : Int32)), .val (.int (2 : Int32)), .val (.ref b2)] [(.int (12 : Int32))]))
  refine OwnDone.go (A := (T6.setTop (mkF m 30 #[.val (.int q), .val (own_sel (-5) q b1 (own_sel (4) q b0 .null)), .val (.ref ta), .val (.int (7 : Int32)), .val (.int (2 : Int32)), .val (.ref b2)] [(.int q), (.int (12 : Int32))]))) (fun tQ kQ => ?_) ?_
  · refine XS.iloadN P6.here hx rfl (hb hby d1_29) rfl ?_
    show Steps p.tables e below (T6.setTop (mkF m 30 #[.val (.int q), .val (own_sel (-5) q b1 (own_sel (4) q b0 .null)), .val (.ref ta), .val (.int (7 : Int32)), .val (.int (2 : Int32)), .val (.ref b2)] [(.int q), (.int (12 : Int32))])) _
    exact kQ
  show OwnDone p e below _ (T6.setTop (mkF m 30 #[.val (.int q), .val (own_sel (-5) q b1 (own_sel (4) q b0 .null)), .val (.ref ta), .val (.int (7 : Int32)), .val (.int (2 : Int32)), .val (.ref b2)] [(.int q), (.int (12 : Int32))]))
  suffices K7 : ∀ zz7 : Value, zz7 = (own_sel (12) q b2 (own_sel (-5) q b1 (own_sel (4) q b0 .null))) → OwnDone p e below _ (T6.setTop (mkF m 36 #[.val (.int q), .val zz7, .val (.ref ta), .val (.int (7 : Int32)), .val (.int (2 : Int32)), .val (.ref b2)] [])) from by
    by_cases hc30 : (12 : Int32) = q
    · refine OwnDone.go (A := (T6.setTop (mkF m 33 #[.val (.int q), .val (own_sel (-5) q b1 (own_sel (4) q b0 .null)), .val (.ref ta), .val (.int (7 : Int32)), .val (.int (2 : Int32)), .val (.ref b2)] []))) (fun tQ kQ => XS.icmpNo P6.here hx rfl (hb hby d1_30) rfl (XT.ii_ne_f hc30) kQ) ?_
      show OwnDone p e below _ (T6.setTop (mkF m 33 #[.val (.int q), .val (own_sel (-5) q b1 (own_sel (4) q b0 .null)), .val (.ref ta), .val (.int (7 : Int32)), .val (.int (2 : Int32)), .val (.ref b2)] []))
      refine OwnDone.go (A := (T6.setTop (mkF m 36 #[.val (.int q), .val (.ref b2), .val (.ref ta), .val (.int (7 : Int32)), .val (.int (2 : Int32)), .val (.ref b2)] []))) (fun tQ kQ => ?_) ?_
      · refine XS.aload P6.here hx rfl (hb hby d1_33) rfl rfl ?_
        show Steps p.tables e below (T6.setTop (mkF m 35 #[.val (.int q), .val (own_sel (-5) q b1 (own_sel (4) q b0 .null)), .val (.ref ta), .val (.int (7 : Int32)), .val (.int (2 : Int32)), .val (.ref b2)] [(.ref b2)])) _
        refine XT.astoreNS P6.here hx rfl (hb hby d1_35) rfl rfl rfl rfl (XT.slot1 (own_selR (own_selR rfl))) ?_
        show Steps p.tables e below (T6.setTop (mkF m 36 #[.val (.int q), .val (.ref b2), .val (.ref ta), .val (.int (7 : Int32)), .val (.int (2 : Int32)), .val (.ref b2)] [])) _
        exact kQ
      show OwnDone p e below _ (T6.setTop (mkF m 36 #[.val (.int q), .val (.ref b2), .val (.ref ta), .val (.int (7 : Int32)), .val (.int (2 : Int32)), .val (.ref b2)] []))
      exact K7 _ (show ((own_sel (12) q b2 (own_sel (-5) q b1 (own_sel (4) q b0 .null))) : Value) = (.ref b2) from by unfold own_sel; simp only [hc30, if_true, if_false]).symm
    · refine OwnDone.go (A := (T6.setTop (mkF m 36 #[.val (.int q), .val (own_sel (-5) q b1 (own_sel (4) q b0 .null)), .val (.ref ta), .val (.int (7 : Int32)), .val (.int (2 : Int32)), .val (.ref b2)] []))) (fun tQ kQ => XS.icmpYes P6.here hx rfl (pc0 := 30) (pc' := 36) rfl (hb hby d1_30) rfl (XT.ii_ne_t hc30) (by decide) (by decide) kQ) ?_
      show OwnDone p e below _ (T6.setTop (mkF m 36 #[.val (.int q), .val (own_sel (-5) q b1 (own_sel (4) q b0 .null)), .val (.ref ta), .val (.int (7 : Int32)), .val (.int (2 : Int32)), .val (.ref b2)] []))
      exact K7 _ (show ((own_sel (12) q b2 (own_sel (-5) q b1 (own_sel (4) q b0 .null))) : Value) = (own_sel (-5) q b1 (own_sel (4) q b0 .null)) from by unfold own_sel; simp only [hc30, if_true, if_false]).symm
  intro zz7 hzz7
  subst hzz7
  show OwnDone p e below _ (T6.setTop (mkF m 36 #[.val (.int q), .val (own_sel (12) q b2 (own_sel (-5) q b1 (own_sel (4) q b0 .null))), .val (.ref ta), .val (.int (7 : Int32)), .val (.int (2 : Int32)), .val (.ref b2)] []))
  refine OwnDone.go (A := (T6.setTop (mkF m 15 #[.val (.int q), .val (own_sel (12) q b2 (own_sel (-5) q b1 (own_sel (4) q b0 .null))), .val (.ref ta), .val (.int (7 : Int32)), .val (.int (3 : Int32)), .val (.ref b2)] [(.int (7 : Int32)), (.int (3 : Int32))]))) (fun tQ kQ => ?_) ?_
  · refine XS.iinc P6.here hx rfl (hb hby d1_36) rfl (l' := #[.val (.int q), .val (own_sel (12) q b2 (own_sel (-5) q b1 (own_sel (4) q b0 .null))), .val (.ref ta), .val (.int (7 : Int32)), .val (.int (3 : Int32)), .val (.ref b2)]) rfl ?_
    show Steps p.tables e below (T6.setTop (mkF m 39 #[.val (.int q), .val (own_sel (12) q b2 (own_sel (-5) q b1 (own_sel (4) q b0 .null))), .val (.ref ta), .val (.int (7 : Int32)), .val (.int (3 : Int32)), .val (.ref b2)] [])) _
    refine XS.goto P6.here hx rfl (pc0 := 39) (pc' := 12) rfl (hb hby d1_39) (by decide) (by decide) ?_
    show Steps p.tables e below (T6.setTop (mkF m 12 #[.val (.int q), .val (own_sel (12) q b2 (own_sel (-5) q b1 (own_sel (4) q b0 .null))), .val (.ref ta), .val (.int (7 : Int32)), .val (.int (3 : Int32)), .val (.ref b2)] [])) _
    refine XS.iload P6.here hx rfl (hb hby d1_12) rfl ?_
    show Steps p.tables e below (T6.setTop (mkF m 14 #[.val (.int q), .val (own_sel (12) q b2 (own_sel (-5) q b1 (own_sel (4) q b0 .null))), .val (.ref ta), .val (.int (7 : Int32)), .val (.int (3 : Int32)), .val (.ref b2)] [(.int (3 : Int32))])) _
    refine XS.iloadN P6.here hx rfl (hb hby d1_14) rfl ?_
    show Steps p.tables e below (T6.setTop (mkF m 15 #[.val (.int q), .val (own_sel (12) q b2 (own_sel (-5) q b1 (own_sel (4) q b0 .null))), .val (.ref ta), .val (.int (7 : Int32)), .val (.int (3 : Int32)), .val (.ref b2)] [(.int (7 : Int32)), (.int (3 : Int32))])) _
    exact kQ
  show OwnDone p e below _ (T6.setTop (mkF m 15 #[.val (.int q), .val (own_sel (12) q b2 (own_sel (-5) q b1 (own_sel (4) q b0 .null))), .val (.ref ta), .val (.int (7 : Int32)), .val (.int (3 : Int32)), .val (.ref b2)] [(.int (7 : Int32)), (.int (3 : Int32))]))
  refine OwnDone.go (A := (T6.setTop (mkF m 18 #[.val (.int q), .val (own_sel (12) q b2 (own_sel (-5) q b1 (own_sel (4) q b0 .null))), .val (.ref ta), .val (.int (7 : Int32)), .val (.int (3 : Int32)), .val (.ref b2)] []))) (fun tQ kQ => XS.icmpNo P6.here hx rfl (hb hby d1_15) rfl (XT.ii_ge_f (by decide)) kQ) ?_
  show OwnDone p e below _ (T6.setTop (mkF m 18 #[.val (.int q), .val (own_sel (12) q b2 (own_sel (-5) q b1 (own_sel (4) q b0 .null))), .val (.ref ta), .val (.int (7 : Int32)), .val (.int (3 : Int32)), .val (.ref b2)] []))
  refine OwnDone.go (A := (T6.setTop (mkF m 26 #[.val (.int q), .val (own_sel (12) q b2 (own_sel (-5) q b1 (own_sel (4) q b0 .null))), .val (.ref ta), .val (.int (7 : Int32)), .val (.int (3 : Int32)), .val (.ref b3)] [(.ref b3)]))) (fun tQ kQ => ?_) ?_
  · refine XS.aloadN P6.here hx rfl (hb hby d1_18) rfl rfl ?_
    show Steps p.tables e below (T6.setTop (mkF m 19 #[.val (.int q), .val (own_sel (12) q b2 (own_sel (-5) q b1 (own_sel (4) q b0 .null))), .val (.ref ta), .val (.int (7 : Int32)), .val (.int (3 : Int32)), .val (.ref b2)] [(.ref ta)])) _
    refine XS.iload P6.here hx rfl (hb hby d1_19) rfl ?_
    show Steps p.tables e below (T6.setTop (mkF m 21 #[.val (.int q), .val (own_sel (12) q b2 (own_sel (-5) q b1 (own_sel (4) q b0 .null))), .val (.ref ta), .val (.int (7 : Int32)), .val (.int (3 : Int32)), .val (.ref b2)] [(.int (3 : Int32)), (.ref ta)])) _
    refine own_aaload C P6 Y0 rfl (by decide) rfl d1_21 ?_
    show Steps p.tables e below (T6.setTop (mkF m 22 #[.val (.int q), .val (own_sel (12) q b2 (own_sel (-5) q b1 (own_sel (4) q b0 .null))), .val (.ref ta), .val (.int (7 : Int32)), .val (.int (3 : Int32)), .val (.ref b2)] [(.ref b3)])) _
    refine XS.astore P6.here hx rfl (hb hby d1_22) rfl rfl (l' := #[.val (.int q), .val (own_sel (12) q b2 (own_sel (-5) q b1 (own_sel (4) q b0 .null))), .val (.ref ta), .val (.int (7 : Int32)), .val (.int (3 : Int32)), .val (.ref b3)]) rfl ?_
    show Steps p.tables e below (T6.setTop (mkF m 24 #[.val (.int q), .val (own_sel (12) q b2 (own_sel (-5) q b1 (own_sel (4) q b0 .null))), .val (.ref ta), .val (.int (7 : Int32)), .val (.int (3 : Int32)), .val (.ref b3)] [])) _
    refine XS.aload P6.here hx rfl (hb hby d1_24) rfl rfl ?_
    show Steps p.tables e below (T6.setTop (mkF m 26 #[.val (.int q), .val (own_sel (12) q b2 (own_sel (-5) q b1 (own_sel (4) q b0 .null))), .val (.ref ta), .val (.int (7 : Int32)), .val (.int (3 : Int32)), .val (.ref b3)] [(.ref b3)])) _
    exact kQ
  show OwnDone p e below _ (T6.setTop (mkF m 26 #[.val (.int q), .val (own_sel (12) q b2 (own_sel (-5) q b1 (own_sel (4) q b0 .null))), .val (.ref ta), .val (.int (7 : Int32)), .val (.int (3 : Int32)), .val (.ref b3)] [(.ref b3)]))
  refine own_getF C P6 (host := "") (Or.inl (hw _ (List.mem_of_getElem? (i := 8) rfl))) Via.refl (F3.ext hE) d1_26 (fun T8 P8 => ?_)
  show OwnDone p e below _ (T8.setTop (mkF m 29 #[.val (.int q), .val (own_sel (12) q b2 (own_sel (-5) q b1 (own_sel (4) q b0 .null))), .val (.ref ta), .val (.int (7 : Int32)), .val (.int (3 : Int32)), .val (.ref b3)] [(.int (16 : Int32))]))
  refine OwnDone.go (A := (T8.setTop (mkF m 30 #[.val (.int q), .val (own_sel (12) q b2 (own_sel (-5) q b1 (own_sel (4) q b0 .null))), .val (.ref ta), .val (.int (7 : Int32)), .val (.int (3 : Int32)), .val (.ref b3)] [(.int q), (.int (16 : Int32))]))) (fun tQ kQ => ?_) ?_
  · refine XS.iloadN P8.here hx rfl (hb hby d1_29) rfl ?_
    show Steps p.tables e below (T8.setTop (mkF m 30 #[.val (.int q), .val (own_sel (12) q b2 (own_sel (-5) q b1 (own_sel (4) q b0 .null))), .val (.ref ta), .val (.int (7 : Int32)), .val (.int (3 : Int32)), .val (.ref b3)] [(.int q), (.int (16 : Int32))])) _
    exact kQ
  show OwnDone p e below _ (T8.setTop (mkF m 30 #[.val (.int q), .val (own_sel (12) q b2 (own_sel (-5) q b1 (own_sel (4) q b0 .null))), .val (.ref ta), .val (.int (7 : Int32)), .val (.int (3 : Int32)), .val (.ref b3)] [(.int q), (.int (16 : Int32))]))
  suffices K9 : ∀ zz9 : Value, zz9 = (own_sel (16) q b3 (own_sel (12) q b2 (own_sel (-5) q b1 (own_sel (4) q b0 .null)))) → OwnDone p e below _ (T8.setTop (mkF m 36 #[.val (.int q), .val zz9, .val (.ref ta), .val (.int (7 : Int32)), .val (.int (3 : Int32)), .val (.ref b3)] [])) from by
    by_cases hc30 : (16 : Int32) = q
    · refine OwnDone.go (A := (T8.setTop (mkF m 33 #[.val (.int q), .val (own_sel (12) q b2 (own_sel (-5) q b1 (own_sel (4) q b0 .null))), .val (.ref ta), .val (.int (7 : Int32)), .val (.int (3 : Int32)), .val (.ref b3)] []))) (fun tQ kQ => XS.icmpNo P8.here hx rfl (hb hby d1_30) rfl (XT.ii_ne_f hc30) kQ) ?_
      show OwnDone p e below _ (T8.setTop (mkF m 33 #[.val (.int q), .val (own_sel (12) q b2 (own_sel (-5) q b1 (own_sel (4) q b0 .null))), .val (.ref ta), .val (.int (7 : Int32)), .val (.int (3 : Int32)), .val (.ref b3)] []))
      refine OwnDone.go (A := (T8.setTop (mkF m 36 #[.val (.int q), .val (.ref b3), .val (.ref ta), .val (.int (7 : Int32)), .val (.int (3 : Int32)), .val (.ref b3)] []))) (fun tQ kQ => ?_) ?_
      · refine XS.aload P8.here hx rfl (hb hby d1_33) rfl rfl ?_
        show Steps p.tables e below (T8.setTop (mkF m 35 #[.val (.int q), .val (own_sel (12) q b2 (own_sel (-5) q b1 (own_sel (4) q b0 .null))), .val (.ref ta), .val (.int (7 : Int32)), .val (.int (3 : Int32)), .val (.ref b3)] [(.ref b3)])) _
        refine XT.astoreNS P8.here hx rfl (hb hby d1_35) rfl rfl rfl rfl (XT.slot1 (own_selR (own_selR (own_selR rfl)))) ?_
        show Steps p.tables e below (T8.setTop (mkF m 36 #[.val (.int q), .val (.ref b3), .val (.ref ta), .val (.int (7 : Int32)), .val (.int (3 : Int32)), .val (.ref b3)] [])) _
        exact kQ
      show OwnDone p e below _ (T8.setTop (mkF m 36 #[.val (.int q), .val (.ref b3), .val (.ref ta), .val (.int (7 : Int32)), .val (.int (3 : Int32)), .val (.ref b3)] []))
      exact K9 _ (show ((own_sel (16) q b3 (own_sel (12) q b2 (own_sel (-5) q b1 (own_sel (4) q b0 .null)))) : Value) = (.ref b3) from by unfold own_sel; simp only [hc30, if_true, if_false]).symm
    · refine OwnDone.go (A := (T8.setTop (mkF m 36 #[.val (.int q), .val (own_sel (12) q b2 (own_sel (-5) q b1 (own_sel (4) q b0 .null))), .val (.ref ta), .val (.int (7 : Int32)), .val (.int (3 : Int32)), .val (.ref b3)] []))) (fun tQ kQ => XS.icmpYes P8.here hx rfl (pc0 := 30) (pc' := 36) rfl (hb hby d1_30) rfl (XT.ii_ne_t hc30) (by decide) (by decide) kQ) ?_
      show OwnDone p e below _ (T8.setTop (mkF m 36 #[.val (.int q), .val (own_sel (12) q b2 (own_sel (-5) q b1 (own_sel (4) q b0 .null))), .val (.ref ta), .val (.int (7 : Int32)), .val (.int (3 : Int32)), .val (.ref b3)] []))
      exact K9 _ (show ((own_sel (16) q b3 (own_sel (12) q b2 (own_sel (-5) q b1 (own_sel (4) q b0 .null)))) : Value) = (own_sel (12) q b2 (own_sel (-5) q b1 (own_sel (4) q b0 .null))) from by unfold own_sel; simp only [hc30, if_true, if_false]).symm
  intro zz9 hzz9
  subst hzz9
  show OwnDone p e below _ (T8.setTop (mkF m 36 #[.val (.int q), .val (own_sel (16) q b3 (own_sel (12) q b2 (own_sel (-5) q b1 (own_sel (4) q b0 .null)))), .val (.ref ta), .val (.int (7 : Int32)), .val (.int (3 : Int32)), .val (.ref b3)] []))
  refine OwnDone.go (A := (T8.setTop (mkF m 15 #[.val (.int q), .val (own_sel (16) q b3 (own_sel (12) q b2 (own_sel (-5) q b1 (own_sel (4) q b0 .null)))), .val (.ref ta), .val (.int (7 : Int32)), .val (.int (4 : Int32)), .val (.ref b3)] [(.int (7 : Int32)), (.int (4 : Int32))]))) (fun tQ kQ => ?_) ?_
  · refine XS.iinc P8.here hx rfl (hb hby d1_36) rfl (l' := #[.val (.int q), .val (own_sel (16) q b3 (own_sel (12) q b2 (own_sel (-5) q b1 (own_sel (4) q b0 .null)))), .val (.ref ta), .val (.int (7 : Int32)), .val (.int (4 : Int32)), .val (.ref b3)]) rfl ?_
    show Steps p.tables e below (T8.setTop (mkF m 39 #[.val (.int q), .val (own_sel (16) q b3 (own_sel (12) q b2 (own_sel (-5) q b1 (own_sel (4) q b0 .null)))), .val (.ref ta), .val (.int (7 : Int32)), .val (.int (4 : Int32)), .val (.ref b3)] [])) _
    refine XS.goto P8.here hx rfl (pc0 := 39) (pc' := 12) rfl (hb hby d1_39) (by decide) (by decide) ?_
    show Steps p.tables e below (T8.setTop (mkF m 12 #[.val (.int q), .val (own_sel (16) q b3 (own_sel (12) q b2 (own_sel (-5) q b1 (own_sel (4) q b0 .null)))), .val (.ref ta), .val (.int (7 : Int32)), .val (.int (4 : Int32)), .val (.ref b3)] [])) _
    refine XS.iload P8.here hx rfl (hb hby d1_12) rfl ?_
    show Steps p.tables e below (T8.setTop (mkF m 14 #[.val (.int q), .val (own_sel (16) q b3 (own_sel (12) q b2 (own_sel (-5) q b1 (own_sel (4) q b0 .null)))), .val (.ref ta), .val (.int (7 : Int32)), .val (.int (4 : Int32)), .val (.ref b3)] [(.int (4 : Int32))])) _
    refine XS.iloadN P8.here hx rfl (hb hby d1_14) rfl ?_
    show Steps p.tables e below (T8.setTop (mkF m 15 #[.val (.int q), .val (own_sel (16) q b3 (own_sel (12) q b2 (own_sel (-5) q b1 (own_sel (4) q b0 .null)))), .val (.ref ta), .val (.int (7 : Int32)), .val (.int (4 : Int32)), .val (.ref b3)] [(.int (7 : Int32)), (.int (4 : Int32))])) _
    exact kQ
  show OwnDone p e below _ (T8.setTop (mkF m 15 #[.val (.int q), .val (own_sel (16) q b3 (own_sel (12) q b2 (own_sel (-5) q b1 (own_sel (4) q b0 .null)))), .val (.ref ta), .val (.int (7 : Int32)), .val (.int (4 : Int32)), .val (.ref b3)] [(.int (7 : Int32)), (.int (4 : Int32))]))
  refine OwnDone.go (A := (T8.setTop (mkF m 18 #[.val (.int q), .val (own_sel (16) q b3 (own_sel (12) q b2 (own_sel (-5) q b1 (own_sel (4) q b0 .null)))), .val (.ref ta), .val (.int (7 : Int32)), .val (.int (4 : Int32)), .val (.ref b3)] []))) (fun tQ kQ => XS.icmpNo P8.here hx rfl (hb hby d1_15) rfl (XT.ii_ge_f (by decide)) kQ) ?_
  show OwnDone p e below _ (T8.setTop (mkF m 18 #[.val (.int q), .val (own_sel (16) q b3 (own_sel (12) q b2 (own_sel (-5) q b1 (own_sel (4) q b0 .null)))), .val (.ref ta), .val (.int (7 : Int32)), .val (.int (4 : Int32)), .val (.ref b3)] []))
  refine OwnDone.go (A := (T8.setTop (mkF m 26 #[.val (.int q), .val (own_sel (16) q b3 (own_sel (12) q b2 (own_sel (-5) q b1 (own_sel (4) q b0 .null)))), .val (.ref ta), .val (.int (7 : Int32)), .val (.int (4 : Int32)), .val (.ref b4)] [(.ref b4)]))) (fun tQ kQ => ?_) ?_
  · refine XS.aloadN P8.here hx rfl (hb hby d1_18) rfl rfl ?_
    show Steps p.tables e below (T8.setTop (mkF m 19 #[.val (.int q), .val (own_sel (16) q b3 (own_sel (12) q b2 (own_sel (-5) q b1 (own_sel (4) q b0 .null)))), .val (.ref ta), .val (.int (7 : Int32)), .val (.int (4 : Int32)), .val (.ref b3)] [(.ref ta)])) _
    refine XS.iload P8.here hx rfl (hb hby d1_19) rfl ?_
    show Steps p.tables e below (T8.setTop (mkF m 21 #[.val (.int q), .val (own_sel (16) q b3 (own_sel (12) q b2 (own_sel (-5) q b1 (own_sel (4) q b0 .null)))), .val (.ref ta), .val (.int (7 : Int32)), .val (.int (4 : Int32)), .val (.ref b3)] [(.int (4 : Int32)), (.ref ta)])) _
    refine own_aaload C P8 Y0 rfl (by decide) rfl d1_21 ?_
    show Steps p.tables e below (T8.setTop (mkF m 22 #[.val (.int q), .val (own_sel (16) q b3 (own_sel (12) q b2 (own_sel (-5) q b1 (own_sel (4) q b0 .null)))), .val (.ref ta), .val (.int (7 : Int32)), .val (.int (4 : Int32)), .val (.ref b3)] [(.ref b4)])) _
    refine XS.astore P8.here hx rfl (hb hby d1_22) rfl rfl (l' := #[.val (.int q), .val (own_sel (16) q b3 (own_sel (12) q b2 (own_sel (-5) q b1 (own_sel (4) q b0 .null)))), .val (.ref ta), .val (.int (7 : Int32)), .val (.int (4 : Int32)), .val (.ref b4)]) rfl ?_
    show Steps p.tables e below (T8.setTop (mkF m 24 #[.val (.int q), .val (own_sel (16) q b3 (own_sel (12) q b2 (own_sel (-5) q b1 (own_sel (4) q b0 .null)))), .val (.ref ta), .val (.int (7 : Int32)), .val (.int (4 : Int32)), .val (.ref b4)] [])) _
    refine XS.aload P8.here hx rfl (hb hby d1_24) rfl rfl ?_
    show Steps p.tables e below (T8.setTop (mkF m 26 #[.val (.int q), .val (own_sel (16) q b3 (own_sel (12) q b2 (own_sel (-5) q b1 (own_sel (4) q b0 .null)))), .val (.ref ta), .val (.int (7 : Int32)), .val (.int (4 : Int32)), .val (.ref b4)] [(.ref b4)])) _
    exact kQ
  show OwnDone p e below _ (T8.setTop (mkF m 26 #[.val (.int q), .val (own_sel (16) q b3 (own_sel (12) q b2 (own_sel (-5) q b1 (own_sel (4) q b0 .null)))), .val (.ref ta), .val (.int (7 : Int32)), .val (.int (4 : Int32)), .val (.ref b4)] [(.ref b4)]))
  refine own_getF C P8 (host := "") (Or.inl (hw _ (List.mem_of_getElem? (i := 8) rfl))) Via.refl (F4.ext hE) d1_26 (fun T10 P10 => ?_)
  show OwnDone p e below _ (T10.setTop (mkF m 29 #[.val (.int q), .val (own_sel (16) q b3 (own_sel (12) q b2 (own_sel (-5) q b1 (own_sel (4) q b0 .null)))), .val (.ref ta), .val (.int (7 : Int32)), .val (.int (4 : Int32)), .val (.ref b4)] [(.int (8 : Int32))]))
  refine OwnDone.go (A := (T10.setTop (mkF m 30 #[.val (.int q), .val (own_sel (16) q b3 (own_sel (12) q b2 (own_sel (-5) q b1 (own_sel (4) q b0 .null)))), .val (.ref ta), .val (.int (7 : Int32)), .val (.int (4 : Int32)), .val (.ref b4)] [(.int q), (.int (8 : Int32))]))) (fun tQ kQ => ?_) ?_
  · refine XS.iloadN P10.here hx rfl (hb hby d1_29) rfl ?_
    show Steps p.tables e below (T10.setTop (mkF m 30 #[.val (.int q), .val (own_sel (16) q b3 (own_sel (12) q b2 (own_sel (-5) q b1 (own_sel (4) q b0 .null)))), .val (.ref ta), .val (.int (7 : Int32)), .val (.int (4 : Int32)), .val (.ref b4)] [(.int q), (.int (8 : Int32))])) _
    exact kQ
  show OwnDone p e below _ (T10.setTop (mkF m 30 #[.val (.int q), .val (own_sel (16) q b3 (own_sel (12) q b2 (own_sel (-5) q b1 (own_sel (4) q b0 .null)))), .val (.ref ta), .val (.int (7 : Int32)), .val (.int (4 : Int32)), .val (.ref b4)] [(.int q), (.int (8 : Int32))]))
  suffices K11 : ∀ zz11 : Value, zz11 = (own_sel (8) q b4 (own_sel (16) q b3 (own_sel (12) q b2 (own_sel (-5) q b1 (own_sel (4) q b0 .null))))) → OwnDone p e below _ (T10.setTop (mkF m 36 #[.val (.int q), .val zz11, .val (.ref ta), .val (.int (7 : Int32)), .val (.int (4 : Int32)), .val (.ref b4)] [])) from by
    by_cases hc30 : (8 : Int32) = q
    · refine OwnDone.go (A := (T10.setTop (mkF m 33 #[.val (.int q), .val (own_sel (16) q b3 (own_sel (12) q b2 (own_sel (-5) q b1 (own_sel (4) q b0 .null)))), .val (.ref ta), .val (.int (7 : Int32)), .val (.int (4 : Int32)), .val (.ref b4)] []))) (fun tQ kQ => XS.icmpNo P10.here hx rfl (hb hby d1_30) rfl (XT.ii_ne_f hc30) kQ) ?_
      show OwnDone p e below _ (T10.setTop (mkF m 33 #[.val (.int q), .val (own_sel (16) q b3 (own_sel (12) q b2 (own_sel (-5) q b1 (own_sel (4) q b0 .null)))), .val (.ref ta), .val (.int (7 : Int32)), .val (.int (4 : Int32)), .val (.ref b4)] []))
      refine OwnDone.go (A := (T10.setTop (mkF m 36 #[.val (.int q), .val (.ref b4), .val (.ref ta), .val (.int (7 : Int32)), .val (.int (4 : Int32)), .val (.ref b4)] []))) (fun tQ kQ => ?_) ?_
      · refine XS.aload P10.here hx rfl (hb hby d1_33) rfl rfl ?_
        show Steps p.tables e below (T10.setTop (mkF m 35 #[.val (.int q), .val (own_sel (16) q b3 (own_sel (12) q b2 (own_sel (-5) q b1 (own_sel (4) q b0 .null)))), .val (.ref ta), .val (.int (7 : Int32)), .val (.int (4 : Int32)), .val (.ref b4)] [(.ref b4)])) _
        refine XT.astoreNS P10.here hx rfl (hb hby d1_35) rfl rfl rfl rfl (XT.slot1 (own_selR (own_selR (own_selR (own_selR rfl))))) ?_
        show Steps p.tables e below (T10.setTop (mkF m 36 #[.val (.int q), .val (.ref b4), .val (.ref ta), .val (.int (7 : Int32)), .val (.int (4 : Int32)), .val (.ref b4)] [])) _
        exact kQ
      show OwnDone p e below _ (T10.setTop (mkF m 36 #[.val (.int q), .val (.ref b4), .val (.ref ta), .val (.int (7 : Int32)), .val (.int (4 : Int32)), .val (.ref b4)] []))
      exact K11 _ (show ((own_sel (8) q b4 (own_sel (16) q b3 (own_sel (12) q b2 (own_sel (-5) q b1 (own_sel (4) q b0 .null))))) : Value) = (.ref b4) from by unfold own_sel; simp only [hc30, if_true, if_false]).symm
    · refine OwnDone.go (A := (T10.setTop (mkF m 36 #[.val (.int q), .val (own_sel (16) q b3 (own_sel (12) q b2 (own_sel (-5) q b1 (own_sel (4) q b0 .null)))), .val (.ref ta), .val (.int (7 : Int32)), .val (.int (4 : Int32)), .val (.ref b4)] []))) (fun tQ kQ => XS.icmpYes P10.here hx rfl (pc0 := 30) (pc' := 36) rfl (hb hby d1_30) rfl (XT.ii_ne_t hc30) (by decide) (by decide) kQ) ?_
      show OwnDone p e below _ (T10.setTop (mkF m 36 #[.val (.int q), .val (own_sel (16) q b3 (own_sel (12) q b2 (own_sel (-5) q b1 (own_sel (4) q b0 .null)))), .val (.ref ta), .val (.int (7 : Int32)), .val (.int (4 : Int32)), .val (.ref b4)] []))
      exact K11 _ (show ((own_sel (8) q b4 (own_sel (16) q b3 (own_sel (12) q b2 (own_sel (-5) q b1 (own_sel (4) q b0 .null))))) : Value) = (own_sel (16) q b3 (own_sel (12) q b2 (own_sel (-5) q b1 (own_sel (4) q b0 .null)))) from by unfold own_sel; simp only [hc30, if_true, if_false]).symm
  intro zz11 hzz11
  subst hzz11
  show OwnDone p e below _ (T10.setTop (mkF m 36 #[.val (.int q), .val (own_sel (8) q b4 (own_sel (16) q b3 (own_sel (12) q b2 (own_sel (-5) q b1 (own_sel (4) q b0 .null))))), .val (.ref ta), .val (.int (7 : Int32)), .val (.int (4 : Int32)), .val (.ref b4)] []))
  refine OwnDone.go (A := (T10.setTop (mkF m 15 #[.val (.int q), .val (own_sel (8) q b4 (own_sel (16) q b3 (own_sel (12) q b2 (own_sel (-5) q b1 (own_sel (4) q b0 .null))))), .val (.ref ta), .val (.int (7 : Int32)), .val (.int (5 : Int32)), .val (.ref b4)] [(.int (7 : Int32)), (.int (5 : Int32))]))) (fun tQ kQ => ?_) ?_
  · refine XS.iinc P10.here hx rfl (hb hby d1_36) rfl (l' := #[.val (.int q), .val (own_sel (8) q b4 (own_sel (16) q b3 (own_sel (12) q b2 (own_sel (-5) q b1 (own_sel (4) q b0 .null))))), .val (.ref ta), .val (.int (7 : Int32)), .val (.int (5 : Int32)), .val (.ref b4)]) rfl ?_
    show Steps p.tables e below (T10.setTop (mkF m 39 #[.val (.int q), .val (own_sel (8) q b4 (own_sel (16) q b3 (own_sel (12) q b2 (own_sel (-5) q b1 (own_sel (4) q b0 .null))))), .val (.ref ta), .val (.int (7 : Int32)), .val (.int (5 : Int32)), .val (.ref b4)] [])) _
    refine XS.goto P10.here hx rfl (pc0 := 39) (pc' := 12) rfl (hb hby d1_39) (by decide) (by decide) ?_
    show Steps p.tables e below (T10.setTop (mkF m 12 #[.val (.int q), .val (own_sel (8) q b4 (own_sel (16) q b3 (own_sel (12) q b2 (own_sel (-5) q b1 (own_sel (4) q b0 .null))))), .val (.ref ta), .val (.int (7 : Int32)), .val (.int (5 : Int32)), .val (.ref b4)] [])) _
    refine XS.iload P10.here hx rfl (hb hby d1_12) rfl ?_
    show Steps p.tables e below (T10.setTop (mkF m 14 #[.val (.int q), .val (own_sel (8) q b4 (own_sel (16) q b3 (own_sel (12) q b2 (own_sel (-5) q b1 (own_sel (4) q b0 .null))))), .val (.ref ta), .val (.int (7 : Int32)), .val (.int (5 : Int32)), .val (.ref b4)] [(.int (5 : Int32))])) _
    refine XS.iloadN P10.here hx rfl (hb hby d1_14) rfl ?_
    show Steps p.tables e below (T10.setTop (mkF m 15 #[.val (.int q), .val (own_sel (8) q b4 (own_sel (16) q b3 (own_sel (12) q b2 (own_sel (-5) q b1 (own_sel (4) q b0 .null))))), .val (.ref ta), .val (.int (7 : Int32)), .val (.int (5 : Int32)), .val (.ref b4)] [(.int (7 : Int32)), (.int (5 : Int32))])) _
    exact kQ
  show OwnDone p e below _ (T10.setTop (mkF m 15 #[.val (.int q), .val (own_sel (8) q b4 (own_sel (16) q b3 (own_sel (12) q b2 (own_sel (-5) q b1 (own_sel (4) q b0 .null))))), .val (.ref ta), .val (.int (7 : Int32)), .val (.int (5 : Int32)), .val (.ref b4)] [(.int (7 : Int32)), (.int (5 : Int32))]))
  refine OwnDone.go (A := (T10.setTop (mkF m 18 #[.val (.int q), .val (own_sel (8) q b4 (own_sel (16) q b3 (own_sel (12) q b2 (own_sel (-5) q b1 (own_sel (4) q b0 .null))))), .val (.ref ta), .val (.int (7 : Int32)), .val (.int (5 : Int32)), .val (.ref b4)] []))) (fun tQ kQ => XS.icmpNo P10.here hx rfl (hb hby d1_15) rfl (XT.ii_ge_f (by decide)) kQ) ?_
  show OwnDone p e below _ (T10.setTop (mkF m 18 #[.val (.int q), .val (own_sel (8) q b4 (own_sel (16) q b3 (own_sel (12) q b2 (own_sel (-5) q b1 (own_sel (4) q b0 .null))))), .val (.ref ta), .val (.int (7 : Int32)), .val (.int (5 : Int32)), .val (.ref b4)] []))
  refine OwnDone.go (A := (T10.setTop (mkF m 26 #[.val (.int q), .val (own_sel (8) q b4 (own_sel (16) q b3 (own_sel (12) q b2 (own_sel (-5) q b1 (own_sel (4) q b0 .null))))), .val (.ref ta), .val (.int (7 : Int32)), .val (.int (5 : Int32)), .val (.ref b5)] [(.ref b5)]))) (fun tQ kQ => ?_) ?_
  · refine XS.aloadN P10.here hx rfl (hb hby d1_18) rfl rfl ?_
    show Steps p.tables e below (T10.setTop (mkF m 19 #[.val (.int q), .val (own_sel (8) q b4 (own_sel (16) q b3 (own_sel (12) q b2 (own_sel (-5) q b1 (own_sel (4) q b0 .null))))), .val (.ref ta), .val (.int (7 : Int32)), .val (.int (5 : Int32)), .val (.ref b4)] [(.ref ta)])) _
    refine XS.iload P10.here hx rfl (hb hby d1_19) rfl ?_
    show Steps p.tables e below (T10.setTop (mkF m 21 #[.val (.int q), .val (own_sel (8) q b4 (own_sel (16) q b3 (own_sel (12) q b2 (own_sel (-5) q b1 (own_sel (4) q b0 .null))))), .val (.ref ta), .val (.int (7 : Int32)), .val (.int (5 : Int32)), .val (.ref b4)] [(.int (5 : Int32)), (.ref ta)])) _
    refine own_aaload C P10 Y0 rfl (by decide) rfl d1_21 ?_
    show Steps p.tables e below (T10.setTop (mkF m 22 #[.val (.int q), .val (own_sel (8) q b4 (own_sel (16) q b3 (own_sel (12) q b2 (own_sel (-5) q b1 (own_sel (4) q b0 .null))))), .val (.ref ta), .val (.int (7 : Int32)), .val (.int (5 : Int32)), .val (.ref b4)] [(.ref b5)])) _
    refine XS.astore P10.here hx rfl (hb hby d1_22) rfl rfl (l' := #[.val (.int q), .val (own_sel (8) q b4 (own_sel (16) q b3 (own_sel (12) q b2 (own_sel (-5) q b1 (own_sel (4) q b0 .null))))), .val (.ref ta), .val (.int (7 : Int32)), .val (.int (5 : Int32)), .val (.ref b5)]) rfl ?_
    show Steps p.tables e below (T10.setTop (mkF m 24 #[.val (.int q), .val (own_sel (8) q b4 (own_sel (16) q b3 (own_sel (12) q b2 (own_sel (-5) q b1 (own_sel (4) q b0 .null))))), .val (.ref ta), .val (.int (7 : Int32)), .val (.int (5 : Int32)), .val (.ref b5)] [])) _
    refine XS.aload P10.here hx rfl (hb hby d1_24) rfl rfl ?_
    show Steps p.tables e below (T10.setTop (mkF m 26 #[.val (.int q), .val (own_sel (8) q b4 (own_sel (16) q b3 (own_sel (12) q b2 (own_sel (-5) q b1 (own_sel (4) q b0 .null))))), .val (.ref ta), .val (.int (7 : Int32)), .val (.int (5 : Int32)), .val (.ref b5)] [(.ref b5)])) _
    exact kQ
  show OwnDone p e below _ (T10.setTop (mkF m 26 #[.val (.int q), .val (own_sel (8) q b4 (own_sel (16) q b3 (own_sel (12) q b2 (own_sel (-5) q b1 (own_sel (4) q b0 .null))))), .val (.ref ta), .val (.int (7 : Int32)), .val (.int (5 : Int32)), .val (.ref b5)] [(.ref b5)]))
  refine own_getF C P10 (host := "") (Or.inl (hw _ (List.mem_of_getElem? (i := 8) rfl))) Via.refl (F5.ext hE) d1_26 (fun T12 P12 => ?_)
  show OwnDone p e below _ (T12.setTop (mkF m 29 #[.val (.int q), .val (own_sel (8) q b4 (own_sel (16) q b3 (own_sel (12) q b2 (own_sel (-5) q b1 (own_sel (4) q b0 .null))))), .val (.ref ta), .val (.int (7 : Int32)), .val (.int (5 : Int32)), .val (.ref b5)] [(.int (5 : Int32))]))
  refine OwnDone.go (A := (T12.setTop (mkF m 30 #[.val (.int q), .val (own_sel (8) q b4 (own_sel (16) q b3 (own_sel (12) q b2 (own_sel (-5) q b1 (own_sel (4) q b0 .null))))), .val (.ref ta), .val (.int (7 : Int32)), .val (.int (5 : Int32)), .val (.ref b5)] [(.int q), (.int (5 : Int32))]))) (fun tQ kQ => ?_) ?_
  · refine XS.iloadN P12.here hx rfl (hb hby d1_29) rfl ?_
    show Steps p.tables e below (T12.setTop (mkF m 30 #[.val (.int q), .val (own_sel (8) q b4 (own_sel (16) q b3 (own_sel (12) q b2 (own_sel (-5) q b1 (own_sel (4) q b0 .null))))), .val (.ref ta), .val (.int (7 : Int32)), .val (.int (5 : Int32)), .val (.ref b5)] [(.int q), (.int (5 : Int32))])) _
    exact kQ
  show OwnDone p e below _ (T12.setTop (mkF m 30 #[.val (.int q), .val (own_sel (8) q b4 (own_sel (16) q b3 (own_sel (12) q b2 (own_sel (-5) q b1 (own_sel (4) q b0 .null))))), .val (.ref ta), .val (.int (7 : Int32)), .val (.int (5 : Int32)), .val (.ref b5)] [(.int q), (.int (5 : Int32))]))
  suffices K13 : ∀ zz13 : Value, zz13 = (own_sel (5) q b5 (own_sel (8) q b4 (own_sel (16) q b3 (own_sel (12) q b2 (own_sel (-5) q b1 (own_sel (4) q b0 .null)))))) → OwnDone p e below _ (T12.setTop (mkF m 36 #[.val (.int q), .val zz13, .val (.ref ta), .val (.int (7 : Int32)), .val (.int (5 : Int32)), .val (.ref b5)] [])) from by
    by_cases hc30 : (5 : Int32) = q
    · refine OwnDone.go (A := (T12.setTop (mkF m 33 #[.val (.int q), .val (own_sel (8) q b4 (own_sel (16) q b3 (own_sel (12) q b2 (own_sel (-5) q b1 (own_sel (4) q b0 .null))))), .val (.ref ta), .val (.int (7 : Int32)), .val (.int (5 : Int32)), .val (.ref b5)] []))) (fun tQ kQ => XS.icmpNo P12.here hx rfl (hb hby d1_30) rfl (XT.ii_ne_f hc30) kQ) ?_
      show OwnDone p e below _ (T12.setTop (mkF m 33 #[.val (.int q), .val (own_sel (8) q b4 (own_sel (16) q b3 (own_sel (12) q b2 (own_sel (-5) q b1 (own_sel (4) q b0 .null))))), .val (.ref ta), .val (.int (7 : Int32)), .val (.int (5 : Int32)), .val (.ref b5)] []))
      refine OwnDone.go (A := (T12.setTop (mkF m 36 #[.val (.int q), .val (.ref b5), .val (.ref ta), .val (.int (7 : Int32)), .val (.int (5 : Int32)), .val (.ref b5)] []))) (fun tQ kQ => ?_) ?_
      · refine XS.aload P12.here hx rfl (hb hby d1_33) rfl rfl ?_
        show Steps p.tables e below (T12.setTop (mkF m 35 #[.val (.int q), .val (own_sel (8) q b4 (own_sel (16) q b3 (own_sel (12) q b2 (own_sel (-5) q b1 (own_sel (4) q b0 .null))))), .val (.ref ta), .val (.int (7 : Int32)), .val (.int (5 : Int32)), .val (.ref b5)] [(.ref b5)])) _
        refine XT.astoreNS P12.here hx rfl (hb hby d1_35) rfl rfl rfl rfl (XT.slot1 (own_selR (own_selR (own_selR (own_selR (own_selR rfl)))))) ?_
        show Steps p.tables e below (T12.setTop (mkF m 36 #[.val (.int q), .val (.ref b5), .val (.ref ta), .val (.int (7 : Int32)), .val (.int (5 : Int32)), .val (.ref b5)] [])) _
        exact kQ
      show OwnDone p e below _ (T12.setTop (mkF m 36 #[.val (.int q), .val (.ref b5), .val (.ref ta), .val (.int (7 : Int32)), .val (.int (5 : Int32)), .val (.ref b5)] []))
      exact K13 _ (show ((own_sel (5) q b5 (own_sel (8) q b4 (own_sel (16) q b3 (own_sel (12) q b2 (own_sel (-5) q b1 (own_sel (4) q b0 .null)))))) : Value) = (.ref b5) from by unfold own_sel; simp only [hc30, if_true, if_false]).symm
    · refine OwnDone.go (A := (T12.setTop (mkF m 36 #[.val (.int q), .val (own_sel (8) q b4 (own_sel (16) q b3 (own_sel (12) q b2 (own_sel (-5) q b1 (own_sel (4) q b0 .null))))), .val (.ref ta), .val (.int (7 : Int32)), .val (.int (5 : Int32)), .val (.ref b5)] []))) (fun tQ kQ => XS.icmpYes P12.here hx rfl (pc0 := 30) (pc' := 36) rfl (hb hby d1_30) rfl (XT.ii_ne_t hc30) (by decide) (by decide) kQ) ?_
      show OwnDone p e below _ (T12.setTop (mkF m 36 #[.val (.int q), .val (own_sel (8) q b4 (own_sel (16) q b3 (own_sel (12) q b2 (own_sel (-5) q b1 (own_sel (4) q b0 .null))))), .val (.ref ta), .val (.int (7 : Int32)), .val (.int (5 : Int32)), .val (.ref b5)] []))
      exact K13 _ (show ((own_sel (5) q b5 (own_sel (8) q b4 (own_sel (16) q b3 (own_sel (12) q b2 (own_sel (-5) q b1 (own_sel (4) q b0 .null)))))) : Value) = (own_sel (8) q b4 (own_sel (16) q b3 (own_sel (12) q b2 (own_sel (-5) q b1 (own_sel (4) q b0 .null))))) from by unfold own_sel; simp only [hc30, if_true, if_false]).symm
  intro zz13 hzz13
  subst hzz13
  show OwnDone p e below _ (T12.setTop (mkF m 36 #[.val (.int q), .val (own_sel (5) q b5 (own_sel (8) q b4 (own_sel (16) q b3 (own_sel (12) q b2 (own_sel (-5) q b1 (own_sel (4) q b0 .null)))))), .val (.ref ta), .val (.int (7 : Int32)), .val (.int (5 : Int32)), .val (.ref b5)] []))
  refine OwnDone.go (A := (T12.setTop (mkF m 15 #[.val (.int q), .val (own_sel (5) q b5 (own_sel (8) q b4 (own_sel (16) q b3 (own_sel (12) q b2 (own_sel (-5) q b1 (own_sel (4) q b0 .null)))))), .val (.ref ta), .val (.int (7 : Int32)), .val (.int (6 : Int32)), .val (.ref b5)] [(.int (7 : Int32)), (.int (6 : Int32))]))) (fun tQ kQ => ?_) ?_
  · refine XS.iinc P12.here hx rfl (hb hby d1_36) rfl (l' := #[.val (.int q), .val (own_sel (5) q b5 (own_sel (8) q b4 (own_sel (16) q b3 (own_sel (12) q b2 (own_sel (-5) q b1 (own_sel (4) q b0 .null)))))), .val (.ref ta), .val (.int (7 : Int32)), .val (.int (6 : Int32)), .val (.ref b5)]) rfl ?_
    show Steps p.tables e below (T12.setTop (mkF m 39 #[.val (.int q), .val (own_sel (5) q b5 (own_sel (8) q b4 (own_sel (16) q b3 (own_sel (12) q b2 (own_sel (-5) q b1 (own_sel (4) q b0 .null)))))), .val (.ref ta), .val (.int (7 : Int32)), .val (.int (6 : Int32)), .val (.ref b5)] [])) _
    refine XS.goto P12.here hx rfl (pc0 := 39) (pc' := 12) rfl (hb hby d1_39) (by decide) (by decide) ?_
    show Steps p.tables e below (T12.setTop (mkF m 12 #[.val (.int q), .val (own_sel (5) q b5 (own_sel (8) q b4 (own_sel (16) q b3 (own_sel (12) q b2 (own_sel (-5) q b1 (own_sel (4) q b0 .null)))))), .val (.ref ta), .val (.int (7 : Int32)), .val (.int (6 : Int32)), .val (.ref b5)] [])) _
    refine XS.iload P12.here hx rfl (hb hby d1_12) rfl ?_
    show Steps p.tables e below (T12.setTop (mkF m 14 #[.val (.int q), .val (own_sel (5) q b5 (own_sel (8) q b4 (own_sel (16) q b3 (own_sel (12) q b2 (own_sel (-5) q b1 (own_sel (4) q b0 .null)))))), .val (.ref ta), .val (.int (7 : Int32)), .val (.int (6 : Int32)), .val (.ref b5)] [(.int (6 : Int32))])) _
    refine XS.iloadN P12.here hx rfl (hb hby d1_14) rfl ?_
    show Steps p.tables e below (T12.setTop (mkF m 15 #[.val (.int q), .val (own_sel (5) q b5 (own_sel (8) q b4 (own_sel (16) q b3 (own_sel (12) q b2 (own_sel (-5) q b1 (own_sel (4) q b0 .null)))))), .val (.ref ta), .val (.int (7 : Int32)), .val (.int (6 : Int32)), .val (.ref b5)] [(.int (7 : Int32)), (.int (6 : Int32))])) _
    exact kQ
  show OwnDone p e below _ (T12.setTop (mkF m 15 #[.val (.int q), .val (own_sel (5) q b5 (own_sel (8) q b4 (own_sel (16) q b3 (own_sel (12) q b2 (own_sel (-5) q b1 (own_sel (4) q b0 .null)))))), .val (.ref ta), .val (.int (7 : Int32)), .val (.int (6 : Int32)), .val (.ref b5)] [(.int (7 : Int32)), (.int (6 : Int32))]))
  refine OwnDone.go (A := (T12.setTop (mkF m 18 #[.val (.int q), .val (own_sel (5) q b5 (own_sel (8) q b4 (own_sel (16) q b3 (own_sel (12) q b2 (own_sel (-5) q b1 (own_sel (4) q b0 .null)))))), .val (.ref ta), .val (.int (7 : Int32)), .val (.int (6 : Int32)), .val (.ref b5)] []))) (fun tQ kQ => XS.icmpNo P12.here hx rfl (hb hby d1_15) rfl (XT.ii_ge_f (by decide)) kQ) ?_
  show OwnDone p e below _ (T12.setTop (mkF m 18 #[.val (.int q), .val (own_sel (5) q b5 (own_sel (8) q b4 (own_sel (16) q b3 (own_sel (12) q b2 (own_sel (-5) q b1 (own_sel (4) q b0 .null)))))), .val (.ref ta), .val (.int (7 : Int32)), .val (.int (6 : Int32)), .val (.ref b5)] []))
  refine OwnDone.go (A := (T12.setTop (mkF m 26 #[.val (.int q), .val (own_sel (5) q b5 (own_sel (8) q b4 (own_sel (16) q b3 (own_sel (12) q b2 (own_sel (-5) q b1 (own_sel (4) q b0 .null)))))), .val (.ref ta), .val (.int (7 : Int32)), .val (.int (6 : Int32)), .val (.ref b6)] [(.ref b6)]))) (fun tQ kQ => ?_) ?_
  · refine XS.aloadN P12.here hx rfl (hb hby d1_18) rfl rfl ?_
    show Steps p.tables e below (T12.setTop (mkF m 19 #[.val (.int q), .val (own_sel (5) q b5 (own_sel (8) q b4 (own_sel (16) q b3 (own_sel (12) q b2 (own_sel (-5) q b1 (own_sel (4) q b0 .null)))))), .val (.ref ta), .val (.int (7 : Int32)), .val (.int (6 : Int32)), .val (.ref b5)] [(.ref ta)])) _
    refine XS.iload P12.here hx rfl (hb hby d1_19) rfl ?_
    show Steps p.tables e below (T12.setTop (mkF m 21 #[.val (.int q), .val (own_sel (5) q b5 (own_sel (8) q b4 (own_sel (16) q b3 (own_sel (12) q b2 (own_sel (-5) q b1 (own_sel (4) q b0 .null)))))), .val (.ref ta), .val (.int (7 : Int32)), .val (.int (6 : Int32)), .val (.ref b5)] [(.int (6 : Int32)), (.ref ta)])) _
    refine own_aaload C P12 Y0 rfl (by decide) rfl d1_21 ?_
    show Steps p.tables e below (T12.setTop (mkF m 22 #[.val (.int q), .val (own_sel (5) q b5 (own_sel (8) q b4 (own_sel (16) q b3 (own_sel (12) q b2 (own_sel (-5) q b1 (own_sel (4) q b0 .null)))))), .val (.ref ta), .val (.int (7 : Int32)), .val (.int (6 : Int32)), .val (.ref b5)] [(.ref b6)])) _
    refine XS.astore P12.here hx rfl (hb hby d1_22) rfl rfl (l' := #[.val (.int q), .val (own_sel (5) q b5 (own_sel (8) q b4 (own_sel (16) q b3 (own_sel (12) q b2 (own_sel (-5) q b1 (own_sel (4) q b0 .null)))))), .val (.ref ta), .val (.int (7 : Int32)), .val (.int (6 : Int32)), .val (.ref b6)]) rfl ?_
    show Steps p.tables e below (T12.setTop (mkF m 24 #[.val (.int q), .val (own_sel (5) q b5 (own_sel (8) q b4 (own_sel (16) q b3 (own_sel (12) q b2 (own_sel (-5) q b1 (own_sel (4) q b0 .null)))))), .val (.ref ta), .val (.int (7 : Int32)), .val (.int (6 : Int32)), .val (.ref b6)] [])) _
    refine XS.aload P12.here hx rfl (hb hby d1_24) rfl rfl ?_
    show Steps p.tables e below (T12.setTop (mkF m 26 #[.val (.int q), .val (own_sel (5) q b5 (own_sel (8) q b4 (own_sel (16) q b3 (own_sel (12) q b2 (own_sel (-5) q b1 (own_sel (4) q b0 .null)))))), .val (.ref ta), .val (.int (7 : Int32)), .val (.int (6 : Int32)), .val (.ref b6)] [(.ref b6)])) _
    exact kQ
  show OwnDone p e below _ (T12.setTop (mkF m 26 #[.val (.int q), .val (own_sel (5) q b5 (own_sel (8) q b4 (own_sel (16) q b3 (own_sel (12) q b2 (own_sel (-5) q b1 (own_sel (4) q b0 .null)))))), .val (.ref ta), .val (.int (7 : Int32)), .val (.int (6 : Int32)), .val (.ref b6)] [(.ref b6)]))
  refine own_getF C P12 (host := "") (Or.inl (hw _ (List.mem_of_getElem? (i := 8) rfl))) Via.refl (F6.ext hE) d1_26 (fun T14 P14 => ?_)
  show OwnDone p e below _ (T14.setTop (mkF m 29 #[.val (.int q), .val (own_sel (5) q b5 (own_sel (8) q b4 (own_sel (16) q b3 (own_sel (12) q b2 (own_sel (-5) q b1 (own_sel (4) q b0 .null)))))), .val (.ref ta), .val (.int (7 : Int32)), .val (.int (6 : Int32)), .val (.ref b6)] [(.int (12 : Int32))]))
  refine OwnDone.go (A := (T14.setTop (mkF m 30 #[.val (.int q), .val (own_sel (5) q b5 (own_sel (8) q b4 (own_sel (16) q b3 (own_sel (12) q b2 (own_sel (-5) q b1 (own_sel (4) q b0 .null)))))), .val (.ref ta), .val (.int (7 : Int32)), .val (.int (6 : Int32)), .val (.ref b6)] [(.int q), (.int (12 : Int32))]))) (fun tQ kQ => ?_) ?_
  · refine XS.iloadN P14.here hx rfl (hb hby d1_29) rfl ?_
    show Steps p.tables e below (T14.setTop (mkF m 30 #[.val (.int q), .val (own_sel (5) q b5 (own_sel (8) q b4 (own_sel (16) q b3 (own_sel (12) q b2 (own_sel (-5) q b1 (own_sel (4) q b0 .null)))))), .val (.ref ta), .val (.int (7 : Int32)), .val (.int (6 : Int32)), .val (.ref b6)] [(.int q), (.int (12 : Int32))])) _
    exact kQ
  show OwnDone p e below _ (T14.setTop (mkF m 30 #[.val (.int q), .val (own_sel (5) q b5 (own_sel (8) q b4 (own_sel (16) q b3 (own_sel (12) q b2 (own_sel (-5) q b1 (own_sel (4) q b0 .null)))))), .val (.ref ta), .val (.int (7 : Int32)), .val (.int (6 : Int32)), .val (.ref b6)] [(.int q), (.int (12 : Int32))]))
  suffices K15 : ∀ zz15 : Value, zz15 = (own_sel (12) q b6 (own_sel (5) q b5 (own_sel (8) q b4 (own_sel (16) q b3 (own_sel (12) q b2 (own_sel (-5) q b1 (own_sel (4) q b0 .null))))))) → OwnDone p e below _ (T14.setTop (mkF m 36 #[.val (.int q), .val zz15, .val (.ref ta), .val (.int (7 : Int32)), .val (.int (6 : Int32)), .val (.ref b6)] [])) from by
    by_cases hc30 : (12 : Int32) = q
    · refine OwnDone.go (A := (T14.setTop (mkF m 33 #[.val (.int q), .val (own_sel (5) q b5 (own_sel (8) q b4 (own_sel (16) q b3 (own_sel (12) q b2 (own_sel (-5) q b1 (own_sel (4) q b0 .null)))))), .val (.ref ta), .val (.int (7 : Int32)), .val (.int (6 : Int32)), .val (.ref b6)] []))) (fun tQ kQ => XS.icmpNo P14.here hx rfl (hb hby d1_30) rfl (XT.ii_ne_f hc30) kQ) ?_
      show OwnDone p e below _ (T14.setTop (mkF m 33 #[.val (.int q), .val (own_sel (5) q b5 (own_sel (8) q b4 (own_sel (16) q b3 (own_sel (12) q b2 (own_sel (-5) q b1 (own_sel (4) q b0 .null)))))), .val (.ref ta), .val (.int (7 : Int32)), .val (.int (6 : Int32)), .val (.ref b6)] []))
      refine OwnDone.go (A := (T14.setTop (mkF m 36 #[.val (.int q), .val (.ref b6), .val (.ref ta), .val (.int (7 : Int32)), .val (.int (6 : Int32)), .val (.ref b6)] []))) (fun tQ kQ => ?_) ?_
      · refine XS.aload P14.here hx rfl (hb hby d1_33) rfl rfl ?_
        show Steps p.tables e below (T14.setTop (mkF m 35 #[.val (.int q), .val (own_sel (5) q b5 (own_sel (8) q b4 (own_sel (16) q b3 (own_sel (12) q b2 (own_sel (-5) q b1 (own_sel (4) q b0 .null)))))), .val (.ref ta), .val (.int (7 : Int32)), .val (.int (6 : Int32)), .val (.ref b6)] [(.ref b6)])) _
        refine XT.astoreNS P14.here hx rfl (hb hby d1_35) rfl rfl rfl rfl (XT.slot1 (own_selR (own_selR (own_selR (own_selR (own_selR (own_selR rfl))))))) ?_
        show Steps p.tables e below (T14.setTop (mkF m 36 #[.val (.int q), .val (.ref b6), .val (.ref ta), .val (.int (7 : Int32)), .val (.int (6 : Int32)), .val (.ref b6)] [])) _
        exact kQ
      show OwnDone p e below _ (T14.setTop (mkF m 36 #[.val (.int q), .val (.ref b6), .val (.ref ta), .val (.int (7 : Int32)), .val (.int (6 : Int32)), .val (.ref b6)] []))
      exact K15 _ (show ((own_sel (12) q b6 (own_sel (5) q b5 (own_sel (8) q b4 (own_sel (16) q b3 (own_sel (12) q b2 (own_sel (-5) q b1 (own_sel (4) q b0 .null))))))) : Value) = (.ref b6) from by unfold own_sel; simp only [hc30, if_true, if_false]).symm
    · refine OwnDone.go (A := (T14.setTop (mkF m 36 #[.val (.int q), .val (own_sel (5) q b5 (own_sel (8) q b4 (own_sel (16) q b3 (own_sel (12) q b2 (own_sel (-5) q b1 (own_sel (4) q b0 .null)))))), .val (.ref ta), .val (.int (7 : Int32)), .val (.int (6 : Int32)), .val (.ref b6)] []))) (fun tQ kQ => XS.icmpYes P14.here hx rfl (pc0 := 30) (pc' := 36) rfl (hb hby d1_30) rfl (XT.ii_ne_t hc30) (by decide) (by decide) kQ) ?_
      show OwnDone p e below _ (T14.setTop (mkF m 36 #[.val (.int q), .val (own_sel (5) q b5 (own_sel (8) q b4 (own_sel (16) q b3 (own_sel (12) q b2 (own_sel (-5) q b1 (own_sel (4) q b0 .null)))))), .val (.ref ta), .val (.int (7 : Int32)), .val (.int (6 : Int32)), .val (.ref b6)] []))
      exact K15 _ (show ((own_sel (12) q b6 (own_sel (5) q b5 (own_sel (8) q b4 (own_sel (16) q b3 (own_sel (12) q b2 (own_sel (-5) q b1 (own_sel (4) q b0 .null))))))) : Value) = (own_sel (5) q b5 (own_sel (8) q b4 (own_sel (16) q b3 (own_sel (12) q b2 (own_sel (-5) q b1 (own_sel (4) q b0 .null)))))) from by unfold own_sel; simp only [hc30, if_true, if_false]).symm
  intro zz15 hzz15
  subst hzz15
  show OwnDone p e below _ (T14.setTop (mkF m 36 #[.val (.int q), .val (own_sel (12) q b6 (own_sel (5) q b5 (own_sel (8) q b4 (own_sel (16) q b3 (own_sel (12) q b2 (own_sel (-5) q b1 (own_sel (4) q b0 .null))))))), .val (.ref ta), .val (.int (7 : Int32)), .val (.int (6 : Int32)), .val (.ref b6)] []))
  refine OwnDone.go (A := (T14.setTop (mkF m 15 #[.val (.int q), .val (own_sel (12) q b6 (own_sel (5) q b5 (own_sel (8) q b4 (own_sel (16) q b3 (own_sel (12) q b2 (own_sel (-5) q b1 (own_sel (4) q b0 .null))))))), .val (.ref ta), .val (.int (7 : Int32)), .val (.int (7 : Int32)), .val (.ref b6)] [(.int (7 : Int32)), (.int (7 : Int32))]))) (fun tQ kQ => ?_) ?_
  · refine XS.iinc P14.here hx rfl (hb hby d1_36) rfl (l' := #[.val (.int q), .val (own_sel (12) q b6 (own_sel (5) q b5 (own_sel (8) q b4 (own_sel (16) q b3 (own_sel (12) q b2 (own_sel (-5) q b1 (own_sel (4) q b0 .null))))))), .val (.ref ta), .val (.int (7 : Int32)), .val (.int (7 : Int32)), .val (.ref b6)]) rfl ?_
    show Steps p.tables e below (T14.setTop (mkF m 39 #[.val (.int q), .val (own_sel (12) q b6 (own_sel (5) q b5 (own_sel (8) q b4 (own_sel (16) q b3 (own_sel (12) q b2 (own_sel (-5) q b1 (own_sel (4) q b0 .null))))))), .val (.ref ta), .val (.int (7 : Int32)), .val (.int (7 : Int32)), .val (.ref b6)] [])) _
    refine XS.goto P14.here hx rfl (pc0 := 39) (pc' := 12) rfl (hb hby d1_39) (by decide) (by decide) ?_
    show Steps p.tables e below (T14.setTop (mkF m 12 #[.val (.int q), .val (own_sel (12) q b6 (own_sel (5) q b5 (own_sel (8) q b4 (own_sel (16) q b3 (own_sel (12) q b2 (own_sel (-5) q b1 (own_sel (4) q b0 .null))))))), .val (.ref ta), .val (.int (7 : Int32)), .val (.int (7 : Int32)), .val (.ref b6)] [])) _
    refine XS.iload P14.here hx rfl (hb hby d1_12) rfl ?_
    show Steps p.tables e below (T14.setTop (mkF m 14 #[.val (.int q), .val (own_sel (12) q b6 (own_sel (5) q b5 (own_sel (8) q b4 (own_sel (16) q b3 (own_sel (12) q b2 (own_sel (-5) q b1 (own_sel (4) q b0 .null))))))), .val (.ref ta), .val (.int (7 : Int32)), .val (.int (7 : Int32)), .val (.ref b6)] [(.int (7 : Int32))])) _
    refine XS.iloadN P14.here hx rfl (hb hby d1_14) rfl ?_
    show Steps p.tables e below (T14.setTop (mkF m 15 #[.val (.int q), .val (own_sel (12) q b6 (own_sel (5) q b5 (own_sel (8) q b4 (own_sel (16) q b3 (own_sel (12) q b2 (own_sel (-5) q b1 (own_sel (4) q b0 .null))))))), .val (.ref ta), .val (.int (7 : Int32)), .val (.int (7 : Int32)), .val (.ref b6)] [(.int (7 : Int32)), (.int (7 : Int32))])) _
    exact kQ
  show OwnDone p e below _ (T14.setTop (mkF m 15 #[.val (.int q), .val (own_sel (12) q b6 (own_sel (5) q b5 (own_sel (8) q b4 (own_sel (16) q b3 (own_sel (12) q b2 (own_sel (-5) q b1 (own_sel (4) q b0 .null))))))), .val (.ref ta), .val (.int (7 : Int32)), .val (.int (7 : Int32)), .val (.ref b6)] [(.int (7 : Int32)), (.int (7 : Int32))]))
  refine OwnDone.go (A := (T14.setTop (mkF m 42 #[.val (.int q), .val (own_sel (12) q b6 (own_sel (5) q b5 (own_sel (8) q b4 (own_sel (16) q b3 (own_sel (12) q b2 (own_sel (-5) q b1 (own_sel (4) q b0 .null))))))), .val (.ref ta), .val (.int (7 : Int32)), .val (.int (7 : Int32)), .val (.ref b6)] []))) (fun tQ kQ => XS.icmpYes P14.here hx rfl (pc0 := 15) (pc' := 42) rfl (hb hby d1_15) rfl (XT.ii_ge_t (by decide)) (by decide) (by decide) kQ) ?_
  show OwnDone p e below _ (T14.setTop (mkF m 42 #[.val (.int q), .val (own_sel (12) q b6 (own_sel (5) q b5 (own_sel (8) q b4 (own_sel (16) q b3 (own_sel (12) q b2 (own_sel (-5) q b1 (own_sel (4) q b0 .null))))))), .val (.ref ta), .val (.int (7 : Int32)), .val (.int (7 : Int32)), .val (.ref b6)] []))
  refine OwnDone.go (A := (T14.setTop (mkF m 43 #[.val (.int q), .val (own_sel (12) q b6 (own_sel (5) q b5 (own_sel (8) q b4 (own_sel (16) q b3 (own_sel (12) q b2 (own_sel (-5) q b1 (own_sel (4) q b0 .null))))))), .val (.ref ta), .val (.int (7 : Int32)), .val (.int (7 : Int32)), .val (.ref b6)] [(own_sel (12) q b6 (own_sel (5) q b5 (own_sel (8) q b4 (own_sel (16) q b3 (own_sel (12) q b2 (own_sel (-5) q b1 (own_sel (4) q b0 .null)))))))]))) (fun tQ kQ => ?_) ?_
  · refine XS.aloadN P14.here hx rfl (hb hby d1_42) rfl (own_selR (own_selR (own_selR (own_selR (own_selR (own_selR (own_selR rfl))))))) ?_
    show Steps p.tables e below (T14.setTop (mkF m 43 #[.val (.int q), .val (own_sel (12) q b6 (own_sel (5) q b5 (own_sel (8) q b4 (own_sel (16) q b3 (own_sel (12) q b2 (own_sel (-5) q b1 (own_sel (4) q b0 .null))))))), .val (.ref ta), .val (.int (7 : Int32)), .val (.int (7 : Int32)), .val (.ref b6)] [(own_sel (12) q b6 (own_sel (5) q b5 (own_sel (8) q b4 (own_sel (16) q b3 (own_sel (12) q b2 (own_sel (-5) q b1 (own_sel (4) q b0 .null)))))))])) _
    exact kQ
  show OwnDone p e below _ (T14.setTop (mkF m 43 #[.val (.int q), .val (own_sel (12) q b6 (own_sel (5) q b5 (own_sel (8) q b4 (own_sel (16) q b3 (own_sel (12) q b2 (own_sel (-5) q b1 (own_sel (4) q b0 .null))))))), .val (.ref ta), .val (.int (7 : Int32)), .val (.int (7 : Int32)), .val (.ref b6)] [(own_sel (12) q b6 (own_sel (5) q b5 (own_sel (8) q b4 (own_sel (16) q b3 (own_sel (12) q b2 (own_sel (-5) q b1 (own_sel (4) q b0 .null)))))))]))
  refine own_retA C P14 rfl (own_selR (own_selR (own_selR (own_selR (own_selR (own_selR (own_selR rfl))))))) d1_43 (by decide) (by decide) ⟨rfl, rfl⟩
theorem d2_0 : decode method_2_code 0 = .ok (.iload_n 0, 1) := by decide +kernel
theorem d2_1 : decode method_2_code 1 = .ok (.iconst 4, 1) := by decide +kernel
theorem d2_2 : decode method_2_code 2 = .ok (.if_icmp .ne 7, 3) := by decide +kernel
theorem d2_5 : decode method_2_code 5 = .ok (.getstatic 7, 3) := by decide +kernel
theorem d2_8 : decode method_2_code 8 = .ok (.areturn, 1) := by decide +kernel
theorem d2_9 : decode method_2_code 9 = .ok (.iload_n 0, 1) := by decide +kernel
theorem d2_10 : decode method_2_code 10 = .ok (.bipush (-5), 2) := by decide +kernel
theorem d2_12 : decode method_2_code 12 = .ok (.if_icmp .ne 7, 3) := by decide +kernel
theorem d2_15 : decode method_2_code 15 = .ok (.getstatic 13, 3) := by decide +kernel
theorem d2_18 : decode method_2_code 18 = .ok (.areturn, 1) := by decide +kernel
theorem d2_19 : decode method_2_code 19 = .ok (.iload_n 0, 1) := by decide +kernel
theorem d2_20 : decode method_2_code 20 = .ok (.bipush 12, 2) := by decide +kernel
theorem d2_22 : decode method_2_code 22 = .ok (.if_icmp .ne 7, 3) := by decide +kernel
theorem d2_25 : decode method_2_code 25 = .ok (.getstatic 16, 3) := by decide +kernel
theorem d2_28 : decode method_2_code 28 = .ok (.areturn, 1) := by decide +kernel
theorem d2_29 : decode method_2_code 29 = .ok (.iload_n 0, 1) := by decide +kernel
theorem d2_30 : decode method_2_code 30 = .ok (.bipush 16, 2) := by decide +kernel
theorem d2_32 : decode method_2_code 32 = .ok (.if_icmp .ne 7, 3) := by decide +kernel
theorem d2_35 : decode method_2_code 35 = .ok (.getstatic 19, 3) := by decide +kernel
theorem d2_38 : decode method_2_code 38 = .ok (.areturn, 1) := by decide +kernel
theorem d2_39 : decode method_2_code 39 = .ok (.iload_n 0, 1) := by decide +kernel
theorem d2_40 : decode method_2_code 40 = .ok (.bipush 8, 2) := by decide +kernel
theorem d2_42 : decode method_2_code 42 = .ok (.if_icmp .ne 7, 3) := by decide +kernel
theorem d2_45 : decode method_2_code 45 = .ok (.getstatic 22, 3) := by decide +kernel
theorem d2_48 : decode method_2_code 48 = .ok (.areturn, 1) := by decide +kernel
theorem d2_49 : decode method_2_code 49 = .ok (.iload_n 0, 1) := by decide +kernel
theorem d2_50 : decode method_2_code 50 = .ok (.iconst 5, 1) := by decide +kernel
theorem d2_51 : decode method_2_code 51 = .ok (.if_icmp .ne 7, 3) := by decide +kernel
theorem d2_54 : decode method_2_code 54 = .ok (.getstatic 25, 3) := by decide +kernel
theorem d2_57 : decode method_2_code 57 = .ok (.areturn, 1) := by decide +kernel
theorem d2_58 : decode method_2_code 58 = .ok (.aconst_null, 1) := by decide +kernel
theorem d2_59 : decode method_2_code 59 = .ok (.areturn, 1) := by decide +kernel
theorem pn2 : plainName "com/example/tidx/tidx/value/TypeOfJdbcTypePinLaw" = true := by first | (simp [plainName, overriddenIn]; done) | decide +kernel
theorem ef2 (m : MethodId) (q : Int32)  : entryFrame m #[(.int q)] 1 = mkF m 0 #[.val (.int q)] [] := by first | (simp [entryFrame, mkF, argsToLocals, Value.category]; done) | rfl
set_option maxRecDepth 65536 in
set_option maxHeartbeats 40000000 in
theorem rm2 (l : Launch) (Z : State) (a0 : Array Value) (hw : ∀ d ∈ tables_1, d.before a0 Z = true) (q : Int32)  (h0 : Heap) (hE : Ext Z.heap h0)  (b0 b1 b3 b4 b5 b6 : Addr) (S0 : Sta Z Z.heap "com/example/tidx/tidx/value/Type" "INTEGER" "Lcom/example/tidx/tidx/value/Type;" (.ref b0)) (S1 : Sta Z Z.heap "com/example/tidx/tidx/value/Type" "BIGINT" "Lcom/example/tidx/tidx/value/Type;" (.ref b1)) (S3 : Sta Z Z.heap "com/example/tidx/tidx/value/Type" "BOOLEAN" "Lcom/example/tidx/tidx/value/Type;" (.ref b3)) (S4 : Sta Z Z.heap "com/example/tidx/tidx/value/Type" "FLOAT" "Lcom/example/tidx/tidx/value/Type;" (.ref b4)) (S5 : Sta Z Z.heap "com/example/tidx/tidx/value/Type" "SMALLINT" "Lcom/example/tidx/tidx/value/Type;" (.ref b5)) (S6 : Sta Z Z.heap "com/example/tidx/tidx/value/Type" "VARCHAR" "Lcom/example/tidx/tidx/value/Type;" (.ref b6)) :
    OwnMeets l (⟨"com/example/tidx/tidx/value/TypeOfJdbcTypePinLaw", "expected", "(I)Lcom/example/tidx/tidx/value/Type;"⟩ : MethodName) method_2_code 1 (some (.object "com/example/tidx/tidx/value/Type")) ({ frames := 0, cells := 0, slots := 0, locals := 0 } : Room) Z [] #[(.int q)] h0 (fun v h => v = some (own_exp q b0 b1 b3 b4 b5 b6) ∧ h0 = h) := by
  refine OwnMeets.of (plainFor_of_name pn2) hE all0 ?_
  intro p e s m below meth c T C P
  have hx := C.1
  have hby := C.2.2.2.2.1
  rw [show entryFrame m #[(.int q)] 1 = _ from ef2 m q]
  show OwnDone p e below _ (T.setTop (mkF m 0 #[.val (.int q)] []))
  refine OwnDone.go (A := (T.setTop (mkF m 2 #[.val (.int q)] [(.int (4 : Int32)), (.int q)]))) (fun tQ kQ => ?_) ?_
  · refine XS.iloadN P.here hx rfl (hb hby d2_0) rfl ?_
    show Steps p.tables e below (T.setTop (mkF m 1 #[.val (.int q)] [(.int q)])) _
    refine XS.iconst P.here hx rfl (hb hby d2_1) ?_
    show Steps p.tables e below (T.setTop (mkF m 2 #[.val (.int q)] [(.int (4 : Int32)), (.int q)])) _
    exact kQ
  show OwnDone p e below _ (T.setTop (mkF m 2 #[.val (.int q)] [(.int (4 : Int32)), (.int q)]))
  by_cases hc2 : q = (4 : Int32)
  · refine OwnDone.go (A := (T.setTop (mkF m 5 #[.val (.int q)] []))) (fun tQ kQ => XS.icmpNo P.here hx rfl (hb hby d2_2) rfl (XT.ii_ne_f hc2) kQ) ?_
    show OwnDone p e below _ (T.setTop (mkF m 5 #[.val (.int q)] []))
    refine own_getS C P (host := "") (Or.inl (hw _ (List.mem_of_getElem? (i := 20) rfl))) Via.refl S0 d2_5 (fun T1 P1 => ?_)
    show OwnDone p e below _ (T1.setTop (mkF m 8 #[.val (.int q)] [(.ref b0)]))
    refine own_retA C P1 rfl rfl d2_8 (by decide) (by decide) ⟨by unfold own_exp; rw [if_pos hc2], rfl⟩
  · refine OwnDone.go (A := (T.setTop (mkF m 9 #[.val (.int q)] []))) (fun tQ kQ => XS.icmpYes P.here hx rfl (pc0 := 2) (pc' := 9) rfl (hb hby d2_2) rfl (XT.ii_ne_t hc2) (by decide) (by decide) kQ) ?_
    show OwnDone p e below _ (T.setTop (mkF m 9 #[.val (.int q)] []))
    refine OwnDone.go (A := (T.setTop (mkF m 12 #[.val (.int q)] [(.int (-5 : Int32)), (.int q)]))) (fun tQ kQ => ?_) ?_
    · refine XS.iloadN P.here hx rfl (hb hby d2_9) rfl ?_
      show Steps p.tables e below (T.setTop (mkF m 10 #[.val (.int q)] [(.int q)])) _
      refine XS.bipush P.here hx rfl (hb hby d2_10) ?_
      show Steps p.tables e below (T.setTop (mkF m 12 #[.val (.int q)] [(.int (-5 : Int32)), (.int q)])) _
      exact kQ
    show OwnDone p e below _ (T.setTop (mkF m 12 #[.val (.int q)] [(.int (-5 : Int32)), (.int q)]))
    by_cases hc12 : q = (-5 : Int32)
    · refine OwnDone.go (A := (T.setTop (mkF m 15 #[.val (.int q)] []))) (fun tQ kQ => XS.icmpNo P.here hx rfl (hb hby d2_12) rfl (XT.ii_ne_f hc12) kQ) ?_
      show OwnDone p e below _ (T.setTop (mkF m 15 #[.val (.int q)] []))
      refine own_getS C P (host := "") (Or.inl (hw _ (List.mem_of_getElem? (i := 22) rfl))) Via.refl S1 d2_15 (fun T2 P2 => ?_)
      show OwnDone p e below _ (T2.setTop (mkF m 18 #[.val (.int q)] [(.ref b1)]))
      refine own_retA C P2 rfl rfl d2_18 (by decide) (by decide) ⟨by unfold own_exp; rw [if_neg hc2, if_pos hc12], rfl⟩
    · refine OwnDone.go (A := (T.setTop (mkF m 19 #[.val (.int q)] []))) (fun tQ kQ => XS.icmpYes P.here hx rfl (pc0 := 12) (pc' := 19) rfl (hb hby d2_12) rfl (XT.ii_ne_t hc12) (by decide) (by decide) kQ) ?_
      show OwnDone p e below _ (T.setTop (mkF m 19 #[.val (.int q)] []))
      refine OwnDone.go (A := (T.setTop (mkF m 22 #[.val (.int q)] [(.int (12 : Int32)), (.int q)]))) (fun tQ kQ => ?_) ?_
      · refine XS.iloadN P.here hx rfl (hb hby d2_19) rfl ?_
        show Steps p.tables e below (T.setTop (mkF m 20 #[.val (.int q)] [(.int q)])) _
        refine XS.bipush P.here hx rfl (hb hby d2_20) ?_
        show Steps p.tables e below (T.setTop (mkF m 22 #[.val (.int q)] [(.int (12 : Int32)), (.int q)])) _
        exact kQ
      show OwnDone p e below _ (T.setTop (mkF m 22 #[.val (.int q)] [(.int (12 : Int32)), (.int q)]))
      by_cases hc22 : q = (12 : Int32)
      · refine OwnDone.go (A := (T.setTop (mkF m 25 #[.val (.int q)] []))) (fun tQ kQ => XS.icmpNo P.here hx rfl (hb hby d2_22) rfl (XT.ii_ne_f hc22) kQ) ?_
        show OwnDone p e below _ (T.setTop (mkF m 25 #[.val (.int q)] []))
        refine own_getS C P (host := "") (Or.inl (hw _ (List.mem_of_getElem? (i := 24) rfl))) Via.refl S6 d2_25 (fun T3 P3 => ?_)
        show OwnDone p e below _ (T3.setTop (mkF m 28 #[.val (.int q)] [(.ref b6)]))
        refine own_retA C P3 rfl rfl d2_28 (by decide) (by decide) ⟨by unfold own_exp; rw [if_neg hc2, if_neg hc12, if_pos hc22], rfl⟩
      · refine OwnDone.go (A := (T.setTop (mkF m 29 #[.val (.int q)] []))) (fun tQ kQ => XS.icmpYes P.here hx rfl (pc0 := 22) (pc' := 29) rfl (hb hby d2_22) rfl (XT.ii_ne_t hc22) (by decide) (by decide) kQ) ?_
        show OwnDone p e below _ (T.setTop (mkF m 29 #[.val (.int q)] []))
        refine OwnDone.go (A := (T.setTop (mkF m 32 #[.val (.int q)] [(.int (16 : Int32)), (.int q)]))) (fun tQ kQ => ?_) ?_
        · refine XS.iloadN P.here hx rfl (hb hby d2_29) rfl ?_
          show Steps p.tables e below (T.setTop (mkF m 30 #[.val (.int q)] [(.int q)])) _
          refine XS.bipush P.here hx rfl (hb hby d2_30) ?_
          show Steps p.tables e below (T.setTop (mkF m 32 #[.val (.int q)] [(.int (16 : Int32)), (.int q)])) _
          exact kQ
        show OwnDone p e below _ (T.setTop (mkF m 32 #[.val (.int q)] [(.int (16 : Int32)), (.int q)]))
        by_cases hc32 : q = (16 : Int32)
        · refine OwnDone.go (A := (T.setTop (mkF m 35 #[.val (.int q)] []))) (fun tQ kQ => XS.icmpNo P.here hx rfl (hb hby d2_32) rfl (XT.ii_ne_f hc32) kQ) ?_
          show OwnDone p e below _ (T.setTop (mkF m 35 #[.val (.int q)] []))
          refine own_getS C P (host := "") (Or.inl (hw _ (List.mem_of_getElem? (i := 21) rfl))) Via.refl S3 d2_35 (fun T4 P4 => ?_)
          show OwnDone p e below _ (T4.setTop (mkF m 38 #[.val (.int q)] [(.ref b3)]))
          refine own_retA C P4 rfl rfl d2_38 (by decide) (by decide) ⟨by unfold own_exp; rw [if_neg hc2, if_neg hc12, if_neg hc22, if_pos hc32], rfl⟩
        · refine OwnDone.go (A := (T.setTop (mkF m 39 #[.val (.int q)] []))) (fun tQ kQ => XS.icmpYes P.here hx rfl (pc0 := 32) (pc' := 39) rfl (hb hby d2_32) rfl (XT.ii_ne_t hc32) (by decide) (by decide) kQ) ?_
          show OwnDone p e below _ (T.setTop (mkF m 39 #[.val (.int q)] []))
          refine OwnDone.go (A := (T.setTop (mkF m 42 #[.val (.int q)] [(.int (8 : Int32)), (.int q)]))) (fun tQ kQ => ?_) ?_
          · refine XS.iloadN P.here hx rfl (hb hby d2_39) rfl ?_
            show Steps p.tables e below (T.setTop (mkF m 40 #[.val (.int q)] [(.int q)])) _
            refine XS.bipush P.here hx rfl (hb hby d2_40) ?_
            show Steps p.tables e below (T.setTop (mkF m 42 #[.val (.int q)] [(.int (8 : Int32)), (.int q)])) _
            exact kQ
          show OwnDone p e below _ (T.setTop (mkF m 42 #[.val (.int q)] [(.int (8 : Int32)), (.int q)]))
          by_cases hc42 : q = (8 : Int32)
          · refine OwnDone.go (A := (T.setTop (mkF m 45 #[.val (.int q)] []))) (fun tQ kQ => XS.icmpNo P.here hx rfl (hb hby d2_42) rfl (XT.ii_ne_f hc42) kQ) ?_
            show OwnDone p e below _ (T.setTop (mkF m 45 #[.val (.int q)] []))
            refine own_getS C P (host := "") (Or.inl (hw _ (List.mem_of_getElem? (i := 25) rfl))) Via.refl S4 d2_45 (fun T5 P5 => ?_)
            show OwnDone p e below _ (T5.setTop (mkF m 48 #[.val (.int q)] [(.ref b4)]))
            refine own_retA C P5 rfl rfl d2_48 (by decide) (by decide) ⟨by unfold own_exp; rw [if_neg hc2, if_neg hc12, if_neg hc22, if_neg hc32, if_pos hc42], rfl⟩
          · refine OwnDone.go (A := (T.setTop (mkF m 49 #[.val (.int q)] []))) (fun tQ kQ => XS.icmpYes P.here hx rfl (pc0 := 42) (pc' := 49) rfl (hb hby d2_42) rfl (XT.ii_ne_t hc42) (by decide) (by decide) kQ) ?_
            show OwnDone p e below _ (T.setTop (mkF m 49 #[.val (.int q)] []))
            refine OwnDone.go (A := (T.setTop (mkF m 51 #[.val (.int q)] [(.int (5 : Int32)), (.int q)]))) (fun tQ kQ => ?_) ?_
            · refine XS.iloadN P.here hx rfl (hb hby d2_49) rfl ?_
              show Steps p.tables e below (T.setTop (mkF m 50 #[.val (.int q)] [(.int q)])) _
              refine XS.iconst P.here hx rfl (hb hby d2_50) ?_
              show Steps p.tables e below (T.setTop (mkF m 51 #[.val (.int q)] [(.int (5 : Int32)), (.int q)])) _
              exact kQ
            show OwnDone p e below _ (T.setTop (mkF m 51 #[.val (.int q)] [(.int (5 : Int32)), (.int q)]))
            by_cases hc51 : q = (5 : Int32)
            · refine OwnDone.go (A := (T.setTop (mkF m 54 #[.val (.int q)] []))) (fun tQ kQ => XS.icmpNo P.here hx rfl (hb hby d2_51) rfl (XT.ii_ne_f hc51) kQ) ?_
              show OwnDone p e below _ (T.setTop (mkF m 54 #[.val (.int q)] []))
              refine own_getS C P (host := "") (Or.inl (hw _ (List.mem_of_getElem? (i := 23) rfl))) Via.refl S5 d2_54 (fun T6 P6 => ?_)
              show OwnDone p e below _ (T6.setTop (mkF m 57 #[.val (.int q)] [(.ref b5)]))
              refine own_retA C P6 rfl rfl d2_57 (by decide) (by decide) ⟨by unfold own_exp; rw [if_neg hc2, if_neg hc12, if_neg hc22, if_neg hc32, if_neg hc42, if_pos hc51], rfl⟩
            · refine OwnDone.go (A := (T.setTop (mkF m 58 #[.val (.int q)] []))) (fun tQ kQ => XS.icmpYes P.here hx rfl (pc0 := 51) (pc' := 58) rfl (hb hby d2_51) rfl (XT.ii_ne_t hc51) (by decide) (by decide) kQ) ?_
              show OwnDone p e below _ (T.setTop (mkF m 58 #[.val (.int q)] []))
              refine OwnDone.go (A := (T.setTop (mkF m 59 #[.val (.int q)] [.null]))) (fun tQ kQ => ?_) ?_
              · refine XS.aconstNull P.here hx rfl (hb hby d2_58) ?_
                show Steps p.tables e below (T.setTop (mkF m 59 #[.val (.int q)] [.null])) _
                exact kQ
              show OwnDone p e below _ (T.setTop (mkF m 59 #[.val (.int q)] [.null]))
              refine own_retA C P rfl rfl d2_59 (by decide) (by decide) ⟨by unfold own_exp; rw [if_neg hc2, if_neg hc12, if_neg hc22, if_neg hc32, if_neg hc42, if_neg hc51], rfl⟩
theorem pn0 : plainName "com/example/tidx/tidx/value/TypeOfJdbcTypePinLaw" = true := by first | (simp [plainName, overriddenIn]; done) | decide +kernel
theorem ef0 (m : MethodId) (p1 : Int32) (p2 : Int32)  : entryFrame m #[(.int p1), (.int p2)] maxLocals = mkF m 0 #[.val (.int p1), .val (.int p2), .unset, .unset, .unset, .unset] [] := by first | (simp [entryFrame, mkF, argsToLocals, Value.category, maxLocals]; done) | rfl
set_option maxRecDepth 65536 in
set_option maxHeartbeats 40000000 in
theorem rm0 (l : Launch) (Z : State) (a0 : Array Value) (hw : ∀ d ∈ tables_1, d.before a0 Z = true) (p1 : Int32) (p2 : Int32)  (h0 : Heap) (hE : Ext Z.heap h0)  (ta : Addr) (tk : ClassId) (b0 b1 b2 b3 b4 b5 b6 : Addr) (ST : Sta Z Z.heap "com/example/tidx/tidx/value/Type" "TYPES" "[Lcom/example/tidx/tidx/value/Type;" (.ref ta)) (YZ : OwnAry Z Z.heap ta tk (.object "com/example/tidx/tidx/value/Type") [(.ref b0), (.ref b1), (.ref b2), (.ref b3), (.ref b4), (.ref b5), (.ref b6)]) (F0 : Fld Z Z.heap b0 "com/example/tidx/tidx/value/Type" "jdbcType" "I" (.int (4))) (F1 : Fld Z Z.heap b1 "com/example/tidx/tidx/value/Type" "jdbcType" "I" (.int (-5))) (F2 : Fld Z Z.heap b2 "com/example/tidx/tidx/value/Type" "jdbcType" "I" (.int (12))) (F3 : Fld Z Z.heap b3 "com/example/tidx/tidx/value/Type" "jdbcType" "I" (.int (16))) (F4 : Fld Z Z.heap b4 "com/example/tidx/tidx/value/Type" "jdbcType" "I" (.int (8))) (F5 : Fld Z Z.heap b5 "com/example/tidx/tidx/value/Type" "jdbcType" "I" (.int (5))) (F6 : Fld Z Z.heap b6 "com/example/tidx/tidx/value/Type" "jdbcType" "I" (.int (12))) (S0 : Sta Z Z.heap "com/example/tidx/tidx/value/Type" "INTEGER" "Lcom/example/tidx/tidx/value/Type;" (.ref b0)) (S1 : Sta Z Z.heap "com/example/tidx/tidx/value/Type" "BIGINT" "Lcom/example/tidx/tidx/value/Type;" (.ref b1)) (S3 : Sta Z Z.heap "com/example/tidx/tidx/value/Type" "BOOLEAN" "Lcom/example/tidx/tidx/value/Type;" (.ref b3)) (S4 : Sta Z Z.heap "com/example/tidx/tidx/value/Type" "FLOAT" "Lcom/example/tidx/tidx/value/Type;" (.ref b4)) (S5 : Sta Z Z.heap "com/example/tidx/tidx/value/Type" "SMALLINT" "Lcom/example/tidx/tidx/value/Type;" (.ref b5)) (S6 : Sta Z Z.heap "com/example/tidx/tidx/value/Type" "VARCHAR" "Lcom/example/tidx/tidx/value/Type;" (.ref b6)) :
    OwnMeets l x code maxLocals ret room_1 Z [] #[(.int p1), (.int p2)] h0 (fun v h => v = some (.int 1)) := by
  refine OwnMeets.of (plainFor_of_name pn0) hE all0 ?_
  intro p e s m below meth c T C P
  have hx := C.1
  have hby := C.2.2.2.2.1
  rw [show entryFrame m #[(.int p1), (.int p2)] maxLocals = _ from ef0 m p1 p2]
  show OwnDone p e below _ (T.setTop (mkF m 0 #[.val (.int p1), .val (.int p2), .unset, .unset, .unset, .unset] []))
  refine OwnDone.go (A := (T.setTop (mkF m 2 #[.val (.int p1), .val (.int p2), .unset, .unset, .unset, .unset] [(.int (15 : Int32))]))) (fun tQ kQ => ?_) ?_
  · refine XS.bipush P.here hx rfl (hb hby at_0) ?_
    show Steps p.tables e below (T.setTop (mkF m 2 #[.val (.int p1), .val (.int p2), .unset, .unset, .unset, .unset] [(.int (15 : Int32))])) _
    exact kQ
  show OwnDone p e below _ (T.setTop (mkF m 2 #[.val (.int p1), .val (.int p2), .unset, .unset, .unset, .unset] [(.int (15 : Int32))]))
  refine own_newP (aty := .int) (n := (15 : Int32)) (cap := 15) (vs := [(.int (0 : Int32)), (.int (0 : Int32)), (.int (0 : Int32)), (.int (0 : Int32)), (.int (0 : Int32)), (.int (0 : Int32)), (.int (0 : Int32)), (.int (0 : Int32)), (.int (0 : Int32)), (.int (0 : Int32)), (.int (0 : Int32)), (.int (0 : Int32)), (.int (0 : Int32)), (.int (0 : Int32)), (.int (0 : Int32))]) C P (hw _ (List.mem_of_getElem? (i := 0) rfl)) at_2 (by decide) (by decide) (by decide) (by decide +kernel) rfl (by decide) (by decide) (fun T1 h1 a1 k1 ga1 la1 P1 K1 Y1 N1 => ?_)
  have ge_a1 : h0.size ≤ a1 := by rw [ga1]; exact P.keep.1
  have Y1 : OwnAry Z h1 a1 k1 .int [(.int (0 : Int32)), (.int (0 : Int32)), (.int (0 : Int32)), (.int (0 : Int32)), (.int (0 : Int32)), (.int (0 : Int32)), (.int (0 : Int32)), (.int (0 : Int32)), (.int (0 : Int32)), (.int (0 : Int32)), (.int (0 : Int32)), (.int (0 : Int32)), (.int (0 : Int32)), (.int (0 : Int32)), (.int (0 : Int32))] := Y1
  show OwnDone p e below _ (T1.setTop (mkF m 4 #[.val (.int p1), .val (.int p2), .unset, .unset, .unset, .unset] [(.ref a1)]))
  refine OwnDone.go (A := (T1.setTop (mkF m 7 #[.val (.int p1), .val (.int p2), .unset, .unset, .unset, .unset] [(.int (4 : Int32)), (.int (0 : Int32)), (.ref a1), (.ref a1)]))) (fun tQ kQ => ?_) ?_
  · refine XS.dup P1.here hx rfl (hb hby at_4) rfl rfl ?_
    show Steps p.tables e below (T1.setTop (mkF m 5 #[.val (.int p1), .val (.int p2), .unset, .unset, .unset, .unset] [(.ref a1), (.ref a1)])) _
    refine XS.iconst P1.here hx rfl (hb hby at_5) ?_
    show Steps p.tables e below (T1.setTop (mkF m 6 #[.val (.int p1), .val (.int p2), .unset, .unset, .unset, .unset] [(.int (0 : Int32)), (.ref a1), (.ref a1)])) _
    refine XS.iconst P1.here hx rfl (hb hby at_6) ?_
    show Steps p.tables e below (T1.setTop (mkF m 7 #[.val (.int p1), .val (.int p2), .unset, .unset, .unset, .unset] [(.int (4 : Int32)), (.int (0 : Int32)), (.ref a1), (.ref a1)])) _
    exact kQ
  show OwnDone p e below _ (T1.setTop (mkF m 7 #[.val (.int p1), .val (.int p2), .unset, .unset, .unset, .unset] [(.int (4 : Int32)), (.int (0 : Int32)), (.ref a1), (.ref a1)]))
  refine own_iastore C P1 Y1 (by decide) (show ((0 : Int32) : Int32).toNatClampNeg < 15 from by decide) (Or.inr ge_a1) at_7 (vs' := [(.int (4 : Int32)), (.int (0 : Int32)), (.int (0 : Int32)), (.int (0 : Int32)), (.int (0 : Int32)), (.int (0 : Int32)), (.int (0 : Int32)), (.int (0 : Int32)), (.int (0 : Int32)), (.int (0 : Int32)), (.int (0 : Int32)), (.int (0 : Int32)), (.int (0 : Int32)), (.int (0 : Int32)), (.int (0 : Int32))]) rfl (fun T2 h2 P2 K2 Y2 => ?_)
  show OwnDone p e below _ (T2.setTop (mkF m 8 #[.val (.int p1), .val (.int p2), .unset, .unset, .unset, .unset] [(.ref a1)]))
  refine OwnDone.go (A := (T2.setTop (mkF m 12 #[.val (.int p1), .val (.int p2), .unset, .unset, .unset, .unset] [(.int (-5 : Int32)), (.int (1 : Int32)), (.ref a1), (.ref a1)]))) (fun tQ kQ => ?_) ?_
  · refine XS.dup P2.here hx rfl (hb hby at_8) rfl rfl ?_
    show Steps p.tables e below (T2.setTop (mkF m 9 #[.val (.int p1), .val (.int p2), .unset, .unset, .unset, .unset] [(.ref a1), (.ref a1)])) _
    refine XS.iconst P2.here hx rfl (hb hby at_9) ?_
    show Steps p.tables e below (T2.setTop (mkF m 10 #[.val (.int p1), .val (.int p2), .unset, .unset, .unset, .unset] [(.int (1 : Int32)), (.ref a1), (.ref a1)])) _
    refine XS.bipush P2.here hx rfl (hb hby at_10) ?_
    show Steps p.tables e below (T2.setTop (mkF m 12 #[.val (.int p1), .val (.int p2), .unset, .unset, .unset, .unset] [(.int (-5 : Int32)), (.int (1 : Int32)), (.ref a1), (.ref a1)])) _
    exact kQ
  show OwnDone p e below _ (T2.setTop (mkF m 12 #[.val (.int p1), .val (.int p2), .unset, .unset, .unset, .unset] [(.int (-5 : Int32)), (.int (1 : Int32)), (.ref a1), (.ref a1)]))
  refine own_iastore C P2 Y2 (by decide) (show ((1 : Int32) : Int32).toNatClampNeg < 15 from by decide) (Or.inr ge_a1) at_12 (vs' := [(.int (4 : Int32)), (.int (-5 : Int32)), (.int (0 : Int32)), (.int (0 : Int32)), (.int (0 : Int32)), (.int (0 : Int32)), (.int (0 : Int32)), (.int (0 : Int32)), (.int (0 : Int32)), (.int (0 : Int32)), (.int (0 : Int32)), (.int (0 : Int32)), (.int (0 : Int32)), (.int (0 : Int32)), (.int (0 : Int32))]) rfl (fun T3 h3 P3 K3 Y3 => ?_)
  show OwnDone p e below _ (T3.setTop (mkF m 13 #[.val (.int p1), .val (.int p2), .unset, .unset, .unset, .unset] [(.ref a1)]))
  refine OwnDone.go (A := (T3.setTop (mkF m 17 #[.val (.int p1), .val (.int p2), .unset, .unset, .unset, .unset] [(.int (12 : Int32)), (.int (2 : Int32)), (.ref a1), (.ref a1)]))) (fun tQ kQ => ?_) ?_
  · refine XS.dup P3.here hx rfl (hb hby at_13) rfl rfl ?_
    show Steps p.tables e below (T3.setTop (mkF m 14 #[.val (.int p1), .val (.int p2), .unset, .unset, .unset, .unset] [(.ref a1), (.ref a1)])) _
    refine XS.iconst P3.here hx rfl (hb hby at_14) ?_
    show Steps p.tables e below (T3.setTop (mkF m 15 #[.val (.int p1), .val (.int p2), .unset, .unset, .unset, .unset] [(.int (2 : Int32)), (.ref a1), (.ref a1)])) _
    refine XS.bipush P3.here hx rfl (hb hby at_15) ?_
    show Steps p.tables e below (T3.setTop (mkF m 17 #[.val (.int p1), .val (.int p2), .unset, .unset, .unset, .unset] [(.int (12 : Int32)), (.int (2 : Int32)), (.ref a1), (.ref a1)])) _
    exact kQ
  show OwnDone p e below _ (T3.setTop (mkF m 17 #[.val (.int p1), .val (.int p2), .unset, .unset, .unset, .unset] [(.int (12 : Int32)), (.int (2 : Int32)), (.ref a1), (.ref a1)]))
  refine own_iastore C P3 Y3 (by decide) (show ((2 : Int32) : Int32).toNatClampNeg < 15 from by decide) (Or.inr ge_a1) at_17 (vs' := [(.int (4 : Int32)), (.int (-5 : Int32)), (.int (12 : Int32)), (.int (0 : Int32)), (.int (0 : Int32)), (.int (0 : Int32)), (.int (0 : Int32)), (.int (0 : Int32)), (.int (0 : Int32)), (.int (0 : Int32)), (.int (0 : Int32)), (.int (0 : Int32)), (.int (0 : Int32)), (.int (0 : Int32)), (.int (0 : Int32))]) rfl (fun T4 h4 P4 K4 Y4 => ?_)
  show OwnDone p e below _ (T4.setTop (mkF m 18 #[.val (.int p1), .val (.int p2), .unset, .unset, .unset, .unset] [(.ref a1)]))
  refine OwnDone.go (A := (T4.setTop (mkF m 22 #[.val (.int p1), .val (.int p2), .unset, .unset, .unset, .unset] [(.int (16 : Int32)), (.int (3 : Int32)), (.ref a1), (.ref a1)]))) (fun tQ kQ => ?_) ?_
  · refine XS.dup P4.here hx rfl (hb hby at_18) rfl rfl ?_
    show Steps p.tables e below (T4.setTop (mkF m 19 #[.val (.int p1), .val (.int p2), .unset, .unset, .unset, .unset] [(.ref a1), (.ref a1)])) _
    refine XS.iconst P4.here hx rfl (hb hby at_19) ?_
    show Steps p.tables e below (T4.setTop (mkF m 20 #[.val (.int p1), .val (.int p2), .unset, .unset, .unset, .unset] [(.int (3 : Int32)), (.ref a1), (.ref a1)])) _
    refine XS.bipush P4.here hx rfl (hb hby at_20) ?_
    show Steps p.tables e below (T4.setTop (mkF m 22 #[.val (.int p1), .val (.int p2), .unset, .unset, .unset, .unset] [(.int (16 : Int32)), (.int (3 : Int32)), (.ref a1), (.ref a1)])) _
    exact kQ
  show OwnDone p e below _ (T4.setTop (mkF m 22 #[.val (.int p1), .val (.int p2), .unset, .unset, .unset, .unset] [(.int (16 : Int32)), (.int (3 : Int32)), (.ref a1), (.ref a1)]))
  refine own_iastore C P4 Y4 (by decide) (show ((3 : Int32) : Int32).toNatClampNeg < 15 from by decide) (Or.inr ge_a1) at_22 (vs' := [(.int (4 : Int32)), (.int (-5 : Int32)), (.int (12 : Int32)), (.int (16 : Int32)), (.int (0 : Int32)), (.int (0 : Int32)), (.int (0 : Int32)), (.int (0 : Int32)), (.int (0 : Int32)), (.int (0 : Int32)), (.int (0 : Int32)), (.int (0 : Int32)), (.int (0 : Int32)), (.int (0 : Int32)), (.int (0 : Int32))]) rfl (fun T5 h5 P5 K5 Y5 => ?_)
  show OwnDone p e below _ (T5.setTop (mkF m 23 #[.val (.int p1), .val (.int p2), .unset, .unset, .unset, .unset] [(.ref a1)]))
  refine OwnDone.go (A := (T5.setTop (mkF m 27 #[.val (.int p1), .val (.int p2), .unset, .unset, .unset, .unset] [(.int (8 : Int32)), (.int (4 : Int32)), (.ref a1), (.ref a1)]))) (fun tQ kQ => ?_) ?_
  · refine XS.dup P5.here hx rfl (hb hby at_23) rfl rfl ?_
    show Steps p.tables e below (T5.setTop (mkF m 24 #[.val (.int p1), .val (.int p2), .unset, .unset, .unset, .unset] [(.ref a1), (.ref a1)])) _
    refine XS.iconst P5.here hx rfl (hb hby at_24) ?_
    show Steps p.tables e below (T5.setTop (mkF m 25 #[.val (.int p1), .val (.int p2), .unset, .unset, .unset, .unset] [(.int (4 : Int32)), (.ref a1), (.ref a1)])) _
    refine XS.bipush P5.here hx rfl (hb hby at_25) ?_
    show Steps p.tables e below (T5.setTop (mkF m 27 #[.val (.int p1), .val (.int p2), .unset, .unset, .unset, .unset] [(.int (8 : Int32)), (.int (4 : Int32)), (.ref a1), (.ref a1)])) _
    exact kQ
  show OwnDone p e below _ (T5.setTop (mkF m 27 #[.val (.int p1), .val (.int p2), .unset, .unset, .unset, .unset] [(.int (8 : Int32)), (.int (4 : Int32)), (.ref a1), (.ref a1)]))
  refine own_iastore C P5 Y5 (by decide) (show ((4 : Int32) : Int32).toNatClampNeg < 15 from by decide) (Or.inr ge_a1) at_27 (vs' := [(.int (4 : Int32)), (.int (-5 : Int32)), (.int (12 : Int32)), (.int (16 : Int32)), (.int (8 : Int32)), (.int (0 : Int32)), (.int (0 : Int32)), (.int (0 : Int32)), (.int (0 : Int32)), (.int (0 : Int32)), (.int (0 : Int32)), (.int (0 : Int32)), (.int (0 : Int32)), (.int (0 : Int32)), (.int (0 : Int32))]) rfl (fun T6 h6 P6 K6 Y6 => ?_)
  show OwnDone p e below _ (T6.setTop (mkF m 28 #[.val (.int p1), .val (.int p2), .unset, .unset, .unset, .unset] [(.ref a1)]))
  refine OwnDone.go (A := (T6.setTop (mkF m 31 #[.val (.int p1), .val (.int p2), .unset, .unset, .unset, .unset] [(.int (5 : Int32)), (.int (5 : Int32)), (.ref a1), (.ref a1)]))) (fun tQ kQ => ?_) ?_
  · refine XS.dup P6.here hx rfl (hb hby at_28) rfl rfl ?_
    show Steps p.tables e below (T6.setTop (mkF m 29 #[.val (.int p1), .val (.int p2), .unset, .unset, .unset, .unset] [(.ref a1), (.ref a1)])) _
    refine XS.iconst P6.here hx rfl (hb hby at_29) ?_
    show Steps p.tables e below (T6.setTop (mkF m 30 #[.val (.int p1), .val (.int p2), .unset, .unset, .unset, .unset] [(.int (5 : Int32)), (.ref a1), (.ref a1)])) _
    refine XS.iconst P6.here hx rfl (hb hby at_30) ?_
    show Steps p.tables e below (T6.setTop (mkF m 31 #[.val (.int p1), .val (.int p2), .unset, .unset, .unset, .unset] [(.int (5 : Int32)), (.int (5 : Int32)), (.ref a1), (.ref a1)])) _
    exact kQ
  show OwnDone p e below _ (T6.setTop (mkF m 31 #[.val (.int p1), .val (.int p2), .unset, .unset, .unset, .unset] [(.int (5 : Int32)), (.int (5 : Int32)), (.ref a1), (.ref a1)]))
  refine own_iastore C P6 Y6 (by decide) (show ((5 : Int32) : Int32).toNatClampNeg < 15 from by decide) (Or.inr ge_a1) at_31 (vs' := [(.int (4 : Int32)), (.int (-5 : Int32)), (.int (12 : Int32)), (.int (16 : Int32)), (.int (8 : Int32)), (.int (5 : Int32)), (.int (0 : Int32)), (.int (0 : Int32)), (.int (0 : Int32)), (.int (0 : Int32)), (.int (0 : Int32)), (.int (0 : Int32)), (.int (0 : Int32)), (.int (0 : Int32)), (.int (0 : Int32))]) rfl (fun T7 h7 P7 K7 Y7 => ?_)
  show OwnDone p e below _ (T7.setTop (mkF m 32 #[.val (.int p1), .val (.int p2), .unset, .unset, .unset, .unset] [(.ref a1)]))
  refine OwnDone.go (A := (T7.setTop (mkF m 36 #[.val (.int p1), .val (.int p2), .unset, .unset, .unset, .unset] [(.int (3 : Int32)), (.int (6 : Int32)), (.ref a1), (.ref a1)]))) (fun tQ kQ => ?_) ?_
  · refine XS.dup P7.here hx rfl (hb hby at_32) rfl rfl ?_
    show Steps p.tables e below (T7.setTop (mkF m 33 #[.val (.int p1), .val (.int p2), .unset, .unset, .unset, .unset] [(.ref a1), (.ref a1)])) _
    refine XS.bipush P7.here hx rfl (hb hby at_33) ?_
    show Steps p.tables e below (T7.setTop (mkF m 35 #[.val (.int p1), .val (.int p2), .unset, .unset, .unset, .unset] [(.int (6 : Int32)), (.ref a1), (.ref a1)])) _
    refine XS.iconst P7.here hx rfl (hb hby at_35) ?_
    show Steps p.tables e below (T7.setTop (mkF m 36 #[.val (.int p1), .val (.int p2), .unset, .unset, .unset, .unset] [(.int (3 : Int32)), (.int (6 : Int32)), (.ref a1), (.ref a1)])) _
    exact kQ
  show OwnDone p e below _ (T7.setTop (mkF m 36 #[.val (.int p1), .val (.int p2), .unset, .unset, .unset, .unset] [(.int (3 : Int32)), (.int (6 : Int32)), (.ref a1), (.ref a1)]))
  refine own_iastore C P7 Y7 (by decide) (show ((6 : Int32) : Int32).toNatClampNeg < 15 from by decide) (Or.inr ge_a1) at_36 (vs' := [(.int (4 : Int32)), (.int (-5 : Int32)), (.int (12 : Int32)), (.int (16 : Int32)), (.int (8 : Int32)), (.int (5 : Int32)), (.int (3 : Int32)), (.int (0 : Int32)), (.int (0 : Int32)), (.int (0 : Int32)), (.int (0 : Int32)), (.int (0 : Int32)), (.int (0 : Int32)), (.int (0 : Int32)), (.int (0 : Int32))]) rfl (fun T8 h8 P8 K8 Y8 => ?_)
  show OwnDone p e below _ (T8.setTop (mkF m 37 #[.val (.int p1), .val (.int p2), .unset, .unset, .unset, .unset] [(.ref a1)]))
  refine OwnDone.go (A := (T8.setTop (mkF m 42 #[.val (.int p1), .val (.int p2), .unset, .unset, .unset, .unset] [(.int (-6 : Int32)), (.int (7 : Int32)), (.ref a1), (.ref a1)]))) (fun tQ kQ => ?_) ?_
  · refine XS.dup P8.here hx rfl (hb hby at_37) rfl rfl ?_
    show Steps p.tables e below (T8.setTop (mkF m 38 #[.val (.int p1), .val (.int p2), .unset, .unset, .unset, .unset] [(.ref a1), (.ref a1)])) _
    refine XS.bipush P8.here hx rfl (hb hby at_38) ?_
    show Steps p.tables e below (T8.setTop (mkF m 40 #[.val (.int p1), .val (.int p2), .unset, .unset, .unset, .unset] [(.int (7 : Int32)), (.ref a1), (.ref a1)])) _
    refine XS.bipush P8.here hx rfl (hb hby at_40) ?_
    show Steps p.tables e below (T8.setTop (mkF m 42 #[.val (.int p1), .val (.int p2), .unset, .unset, .unset, .unset] [(.int (-6 : Int32)), (.int (7 : Int32)), (.ref a1), (.ref a1)])) _
    exact kQ
  show OwnDone p e below _ (T8.setTop (mkF m 42 #[.val (.int p1), .val (.int p2), .unset, .unset, .unset, .unset] [(.int (-6 : Int32)), (.int (7 : Int32)), (.ref a1), (.ref a1)]))
  refine own_iastore C P8 Y8 (by decide) (show ((7 : Int32) : Int32).toNatClampNeg < 15 from by decide) (Or.inr ge_a1) at_42 (vs' := [(.int (4 : Int32)), (.int (-5 : Int32)), (.int (12 : Int32)), (.int (16 : Int32)), (.int (8 : Int32)), (.int (5 : Int32)), (.int (3 : Int32)), (.int (-6 : Int32)), (.int (0 : Int32)), (.int (0 : Int32)), (.int (0 : Int32)), (.int (0 : Int32)), (.int (0 : Int32)), (.int (0 : Int32)), (.int (0 : Int32))]) rfl (fun T9 h9 P9 K9 Y9 => ?_)
  show OwnDone p e below _ (T9.setTop (mkF m 43 #[.val (.int p1), .val (.int p2), .unset, .unset, .unset, .unset] [(.ref a1)]))
  refine OwnDone.go (A := (T9.setTop (mkF m 48 #[.val (.int p1), .val (.int p2), .unset, .unset, .unset, .unset] [(.int (-4 : Int32)), (.int (8 : Int32)), (.ref a1), (.ref a1)]))) (fun tQ kQ => ?_) ?_
  · refine XS.dup P9.here hx rfl (hb hby at_43) rfl rfl ?_
    show Steps p.tables e below (T9.setTop (mkF m 44 #[.val (.int p1), .val (.int p2), .unset, .unset, .unset, .unset] [(.ref a1), (.ref a1)])) _
    refine XS.bipush P9.here hx rfl (hb hby at_44) ?_
    show Steps p.tables e below (T9.setTop (mkF m 46 #[.val (.int p1), .val (.int p2), .unset, .unset, .unset, .unset] [(.int (8 : Int32)), (.ref a1), (.ref a1)])) _
    refine XS.bipush P9.here hx rfl (hb hby at_46) ?_
    show Steps p.tables e below (T9.setTop (mkF m 48 #[.val (.int p1), .val (.int p2), .unset, .unset, .unset, .unset] [(.int (-4 : Int32)), (.int (8 : Int32)), (.ref a1), (.ref a1)])) _
    exact kQ
  show OwnDone p e below _ (T9.setTop (mkF m 48 #[.val (.int p1), .val (.int p2), .unset, .unset, .unset, .unset] [(.int (-4 : Int32)), (.int (8 : Int32)), (.ref a1), (.ref a1)]))
  refine own_iastore C P9 Y9 (by decide) (show ((8 : Int32) : Int32).toNatClampNeg < 15 from by decide) (Or.inr ge_a1) at_48 (vs' := [(.int (4 : Int32)), (.int (-5 : Int32)), (.int (12 : Int32)), (.int (16 : Int32)), (.int (8 : Int32)), (.int (5 : Int32)), (.int (3 : Int32)), (.int (-6 : Int32)), (.int (-4 : Int32)), (.int (0 : Int32)), (.int (0 : Int32)), (.int (0 : Int32)), (.int (0 : Int32)), (.int (0 : Int32)), (.int (0 : Int32))]) rfl (fun T10 h10 P10 K10 Y10 => ?_)
  show OwnDone p e below _ (T10.setTop (mkF m 49 #[.val (.int p1), .val (.int p2), .unset, .unset, .unset, .unset] [(.ref a1)]))
  refine OwnDone.go (A := (T10.setTop (mkF m 54 #[.val (.int p1), .val (.int p2), .unset, .unset, .unset, .unset] [(.int (11 : Int32)), (.int (9 : Int32)), (.ref a1), (.ref a1)]))) (fun tQ kQ => ?_) ?_
  · refine XS.dup P10.here hx rfl (hb hby at_49) rfl rfl ?_
    show Steps p.tables e below (T10.setTop (mkF m 50 #[.val (.int p1), .val (.int p2), .unset, .unset, .unset, .unset] [(.ref a1), (.ref a1)])) _
    refine XS.bipush P10.here hx rfl (hb hby at_50) ?_
    show Steps p.tables e below (T10.setTop (mkF m 52 #[.val (.int p1), .val (.int p2), .unset, .unset, .unset, .unset] [(.int (9 : Int32)), (.ref a1), (.ref a1)])) _
    refine XS.bipush P10.here hx rfl (hb hby at_52) ?_
    show Steps p.tables e below (T10.setTop (mkF m 54 #[.val (.int p1), .val (.int p2), .unset, .unset, .unset, .unset] [(.int (11 : Int32)), (.int (9 : Int32)), (.ref a1), (.ref a1)])) _
    exact kQ
  show OwnDone p e below _ (T10.setTop (mkF m 54 #[.val (.int p1), .val (.int p2), .unset, .unset, .unset, .unset] [(.int (11 : Int32)), (.int (9 : Int32)), (.ref a1), (.ref a1)]))
  refine own_iastore C P10 Y10 (by decide) (show ((9 : Int32) : Int32).toNatClampNeg < 15 from by decide) (Or.inr ge_a1) at_54 (vs' := [(.int (4 : Int32)), (.int (-5 : Int32)), (.int (12 : Int32)), (.int (16 : Int32)), (.int (8 : Int32)), (.int (5 : Int32)), (.int (3 : Int32)), (.int (-6 : Int32)), (.int (-4 : Int32)), (.int (11 : Int32)), (.int (0 : Int32)), (.int (0 : Int32)), (.int (0 : Int32)), (.int (0 : Int32)), (.int (0 : Int32))]) rfl (fun T11 h11 P11 K11 Y11 => ?_)
  show OwnDone p e below _ (T11.setTop (mkF m 55 #[.val (.int p1), .val (.int p2), .unset, .unset, .unset, .unset] [(.ref a1)]))
  refine OwnDone.go (A := (T11.setTop (mkF m 60 #[.val (.int p1), .val (.int p2), .unset, .unset, .unset, .unset] [(.int (13 : Int32)), (.int (10 : Int32)), (.ref a1), (.ref a1)]))) (fun tQ kQ => ?_) ?_
  · refine XS.dup P11.here hx rfl (hb hby at_55) rfl rfl ?_
    show Steps p.tables e below (T11.setTop (mkF m 56 #[.val (.int p1), .val (.int p2), .unset, .unset, .unset, .unset] [(.ref a1), (.ref a1)])) _
    refine XS.bipush P11.here hx rfl (hb hby at_56) ?_
    show Steps p.tables e below (T11.setTop (mkF m 58 #[.val (.int p1), .val (.int p2), .unset, .unset, .unset, .unset] [(.int (10 : Int32)), (.ref a1), (.ref a1)])) _
    refine XS.bipush P11.here hx rfl (hb hby at_58) ?_
    show Steps p.tables e below (T11.setTop (mkF m 60 #[.val (.int p1), .val (.int p2), .unset, .unset, .unset, .unset] [(.int (13 : Int32)), (.int (10 : Int32)), (.ref a1), (.ref a1)])) _
    exact kQ
  show OwnDone p e below _ (T11.setTop (mkF m 60 #[.val (.int p1), .val (.int p2), .unset, .unset, .unset, .unset] [(.int (13 : Int32)), (.int (10 : Int32)), (.ref a1), (.ref a1)]))
  refine own_iastore C P11 Y11 (by decide) (show ((10 : Int32) : Int32).toNatClampNeg < 15 from by decide) (Or.inr ge_a1) at_60 (vs' := [(.int (4 : Int32)), (.int (-5 : Int32)), (.int (12 : Int32)), (.int (16 : Int32)), (.int (8 : Int32)), (.int (5 : Int32)), (.int (3 : Int32)), (.int (-6 : Int32)), (.int (-4 : Int32)), (.int (11 : Int32)), (.int (13 : Int32)), (.int (0 : Int32)), (.int (0 : Int32)), (.int (0 : Int32)), (.int (0 : Int32))]) rfl (fun T12 h12 P12 K12 Y12 => ?_)
  show OwnDone p e below _ (T12.setTop (mkF m 61 #[.val (.int p1), .val (.int p2), .unset, .unset, .unset, .unset] [(.ref a1)]))
  refine OwnDone.go (A := (T12.setTop (mkF m 66 #[.val (.int p1), .val (.int p2), .unset, .unset, .unset, .unset] [(.int (17 : Int32)), (.int (11 : Int32)), (.ref a1), (.ref a1)]))) (fun tQ kQ => ?_) ?_
  · refine XS.dup P12.here hx rfl (hb hby at_61) rfl rfl ?_
    show Steps p.tables e below (T12.setTop (mkF m 62 #[.val (.int p1), .val (.int p2), .unset, .unset, .unset, .unset] [(.ref a1), (.ref a1)])) _
    refine XS.bipush P12.here hx rfl (hb hby at_62) ?_
    show Steps p.tables e below (T12.setTop (mkF m 64 #[.val (.int p1), .val (.int p2), .unset, .unset, .unset, .unset] [(.int (11 : Int32)), (.ref a1), (.ref a1)])) _
    refine XS.bipush P12.here hx rfl (hb hby at_64) ?_
    show Steps p.tables e below (T12.setTop (mkF m 66 #[.val (.int p1), .val (.int p2), .unset, .unset, .unset, .unset] [(.int (17 : Int32)), (.int (11 : Int32)), (.ref a1), (.ref a1)])) _
    exact kQ
  show OwnDone p e below _ (T12.setTop (mkF m 66 #[.val (.int p1), .val (.int p2), .unset, .unset, .unset, .unset] [(.int (17 : Int32)), (.int (11 : Int32)), (.ref a1), (.ref a1)]))
  refine own_iastore C P12 Y12 (by decide) (show ((11 : Int32) : Int32).toNatClampNeg < 15 from by decide) (Or.inr ge_a1) at_66 (vs' := [(.int (4 : Int32)), (.int (-5 : Int32)), (.int (12 : Int32)), (.int (16 : Int32)), (.int (8 : Int32)), (.int (5 : Int32)), (.int (3 : Int32)), (.int (-6 : Int32)), (.int (-4 : Int32)), (.int (11 : Int32)), (.int (13 : Int32)), (.int (17 : Int32)), (.int (0 : Int32)), (.int (0 : Int32)), (.int (0 : Int32))]) rfl (fun T13 h13 P13 K13 Y13 => ?_)
  show OwnDone p e below _ (T13.setTop (mkF m 67 #[.val (.int p1), .val (.int p2), .unset, .unset, .unset, .unset] [(.ref a1)]))
  refine OwnDone.go (A := (T13.setTop (mkF m 72 #[.val (.int p1), .val (.int p2), .unset, .unset, .unset, .unset] [(.int (7 : Int32)), (.int (12 : Int32)), (.ref a1), (.ref a1)]))) (fun tQ kQ => ?_) ?_
  · refine XS.dup P13.here hx rfl (hb hby at_67) rfl rfl ?_
    show Steps p.tables e below (T13.setTop (mkF m 68 #[.val (.int p1), .val (.int p2), .unset, .unset, .unset, .unset] [(.ref a1), (.ref a1)])) _
    refine XS.bipush P13.here hx rfl (hb hby at_68) ?_
    show Steps p.tables e below (T13.setTop (mkF m 70 #[.val (.int p1), .val (.int p2), .unset, .unset, .unset, .unset] [(.int (12 : Int32)), (.ref a1), (.ref a1)])) _
    refine XS.bipush P13.here hx rfl (hb hby at_70) ?_
    show Steps p.tables e below (T13.setTop (mkF m 72 #[.val (.int p1), .val (.int p2), .unset, .unset, .unset, .unset] [(.int (7 : Int32)), (.int (12 : Int32)), (.ref a1), (.ref a1)])) _
    exact kQ
  show OwnDone p e below _ (T13.setTop (mkF m 72 #[.val (.int p1), .val (.int p2), .unset, .unset, .unset, .unset] [(.int (7 : Int32)), (.int (12 : Int32)), (.ref a1), (.ref a1)]))
  refine own_iastore C P13 Y13 (by decide) (show ((12 : Int32) : Int32).toNatClampNeg < 15 from by decide) (Or.inr ge_a1) at_72 (vs' := [(.int (4 : Int32)), (.int (-5 : Int32)), (.int (12 : Int32)), (.int (16 : Int32)), (.int (8 : Int32)), (.int (5 : Int32)), (.int (3 : Int32)), (.int (-6 : Int32)), (.int (-4 : Int32)), (.int (11 : Int32)), (.int (13 : Int32)), (.int (17 : Int32)), (.int (7 : Int32)), (.int (0 : Int32)), (.int (0 : Int32))]) rfl (fun T14 h14 P14 K14 Y14 => ?_)
  show OwnDone p e below _ (T14.setTop (mkF m 73 #[.val (.int p1), .val (.int p2), .unset, .unset, .unset, .unset] [(.ref a1)]))
  refine OwnDone.go (A := (T14.setTop (mkF m 78 #[.val (.int p1), .val (.int p2), .unset, .unset, .unset, .unset] [(.int (9 : Int32)), (.int (13 : Int32)), (.ref a1), (.ref a1)]))) (fun tQ kQ => ?_) ?_
  · refine XS.dup P14.here hx rfl (hb hby at_73) rfl rfl ?_
    show Steps p.tables e below (T14.setTop (mkF m 74 #[.val (.int p1), .val (.int p2), .unset, .unset, .unset, .unset] [(.ref a1), (.ref a1)])) _
    refine XS.bipush P14.here hx rfl (hb hby at_74) ?_
    show Steps p.tables e below (T14.setTop (mkF m 76 #[.val (.int p1), .val (.int p2), .unset, .unset, .unset, .unset] [(.int (13 : Int32)), (.ref a1), (.ref a1)])) _
    refine XS.bipush P14.here hx rfl (hb hby at_76) ?_
    show Steps p.tables e below (T14.setTop (mkF m 78 #[.val (.int p1), .val (.int p2), .unset, .unset, .unset, .unset] [(.int (9 : Int32)), (.int (13 : Int32)), (.ref a1), (.ref a1)])) _
    exact kQ
  show OwnDone p e below _ (T14.setTop (mkF m 78 #[.val (.int p1), .val (.int p2), .unset, .unset, .unset, .unset] [(.int (9 : Int32)), (.int (13 : Int32)), (.ref a1), (.ref a1)]))
  refine own_iastore C P14 Y14 (by decide) (show ((13 : Int32) : Int32).toNatClampNeg < 15 from by decide) (Or.inr ge_a1) at_78 (vs' := [(.int (4 : Int32)), (.int (-5 : Int32)), (.int (12 : Int32)), (.int (16 : Int32)), (.int (8 : Int32)), (.int (5 : Int32)), (.int (3 : Int32)), (.int (-6 : Int32)), (.int (-4 : Int32)), (.int (11 : Int32)), (.int (13 : Int32)), (.int (17 : Int32)), (.int (7 : Int32)), (.int (9 : Int32)), (.int (0 : Int32))]) rfl (fun T15 h15 P15 K15 Y15 => ?_)
  show OwnDone p e below _ (T15.setTop (mkF m 79 #[.val (.int p1), .val (.int p2), .unset, .unset, .unset, .unset] [(.ref a1)]))
  refine OwnDone.go (A := (T15.setTop (mkF m 83 #[.val (.int p1), .val (.int p2), .unset, .unset, .unset, .unset] [(.int (0 : Int32)), (.int (14 : Int32)), (.ref a1), (.ref a1)]))) (fun tQ kQ => ?_) ?_
  · refine XS.dup P15.here hx rfl (hb hby at_79) rfl rfl ?_
    show Steps p.tables e below (T15.setTop (mkF m 80 #[.val (.int p1), .val (.int p2), .unset, .unset, .unset, .unset] [(.ref a1), (.ref a1)])) _
    refine XS.bipush P15.here hx rfl (hb hby at_80) ?_
    show Steps p.tables e below (T15.setTop (mkF m 82 #[.val (.int p1), .val (.int p2), .unset, .unset, .unset, .unset] [(.int (14 : Int32)), (.ref a1), (.ref a1)])) _
    refine XS.iconst P15.here hx rfl (hb hby at_82) ?_
    show Steps p.tables e below (T15.setTop (mkF m 83 #[.val (.int p1), .val (.int p2), .unset, .unset, .unset, .unset] [(.int (0 : Int32)), (.int (14 : Int32)), (.ref a1), (.ref a1)])) _
    exact kQ
  show OwnDone p e below _ (T15.setTop (mkF m 83 #[.val (.int p1), .val (.int p2), .unset, .unset, .unset, .unset] [(.int (0 : Int32)), (.int (14 : Int32)), (.ref a1), (.ref a1)]))
  refine own_iastore C P15 Y15 (by decide) (show ((14 : Int32) : Int32).toNatClampNeg < 15 from by decide) (Or.inr ge_a1) at_83 (vs' := [(.int (4 : Int32)), (.int (-5 : Int32)), (.int (12 : Int32)), (.int (16 : Int32)), (.int (8 : Int32)), (.int (5 : Int32)), (.int (3 : Int32)), (.int (-6 : Int32)), (.int (-4 : Int32)), (.int (11 : Int32)), (.int (13 : Int32)), (.int (17 : Int32)), (.int (7 : Int32)), (.int (9 : Int32)), (.int (0 : Int32))]) rfl (fun T16 h16 P16 K16 Y16 => ?_)
  show OwnDone p e below _ (T16.setTop (mkF m 84 #[.val (.int p1), .val (.int p2), .unset, .unset, .unset, .unset] [(.ref a1)]))
  refine OwnDone.go (A := (T16.setTop (mkF m 93 #[.val (.int p1), .val (.int p2), .val (.ref a1), .val (.int (p1 &&& (15 : Int32))), .unset, .unset] [(.int (15 : Int32)), (.int (p1 &&& (15 : Int32)))]))) (fun tQ kQ => ?_) ?_
  · refine XS.astoreN P16.here hx rfl (hb hby at_84) rfl rfl (l' := #[.val (.int p1), .val (.int p2), .val (.ref a1), .unset, .unset, .unset]) rfl ?_
    show Steps p.tables e below (T16.setTop (mkF m 85 #[.val (.int p1), .val (.int p2), .val (.ref a1), .unset, .unset, .unset] [])) _
    refine XS.iloadN P16.here hx rfl (hb hby at_85) rfl ?_
    show Steps p.tables e below (T16.setTop (mkF m 86 #[.val (.int p1), .val (.int p2), .val (.ref a1), .unset, .unset, .unset] [(.int p1)])) _
    refine XS.bipush P16.here hx rfl (hb hby at_86) ?_
    show Steps p.tables e below (T16.setTop (mkF m 88 #[.val (.int p1), .val (.int p2), .val (.ref a1), .unset, .unset, .unset] [(.int (15 : Int32)), (.int p1)])) _
    refine XS.iand P16.here hx rfl (hb hby at_88) rfl ?_
    show Steps p.tables e below (T16.setTop (mkF m 89 #[.val (.int p1), .val (.int p2), .val (.ref a1), .unset, .unset, .unset] [(.int (p1 &&& (15 : Int32)))])) _
    refine XS.istoreN P16.here hx rfl (hb hby at_89) rfl (l' := #[.val (.int p1), .val (.int p2), .val (.ref a1), .val (.int (p1 &&& (15 : Int32))), .unset, .unset]) rfl ?_
    show Steps p.tables e below (T16.setTop (mkF m 90 #[.val (.int p1), .val (.int p2), .val (.ref a1), .val (.int (p1 &&& (15 : Int32))), .unset, .unset] [])) _
    refine XS.iloadN P16.here hx rfl (hb hby at_90) rfl ?_
    show Steps p.tables e below (T16.setTop (mkF m 91 #[.val (.int p1), .val (.int p2), .val (.ref a1), .val (.int (p1 &&& (15 : Int32))), .unset, .unset] [(.int (p1 &&& (15 : Int32)))])) _
    refine XS.bipush P16.here hx rfl (hb hby at_91) ?_
    show Steps p.tables e below (T16.setTop (mkF m 93 #[.val (.int p1), .val (.int p2), .val (.ref a1), .val (.int (p1 &&& (15 : Int32))), .unset, .unset] [(.int (15 : Int32)), (.int (p1 &&& (15 : Int32)))])) _
    exact kQ
  show OwnDone p e below _ (T16.setTop (mkF m 93 #[.val (.int p1), .val (.int p2), .val (.ref a1), .val (.int (p1 &&& (15 : Int32))), .unset, .unset] [(.int (15 : Int32)), (.int (p1 &&& (15 : Int32)))]))
  by_cases hc93 : (p1 &&& (15 : Int32)) = (15 : Int32)
  · refine OwnDone.go (A := (T16.setTop (mkF m 96 #[.val (.int p1), .val (.int p2), .val (.ref a1), .val (.int (p1 &&& (15 : Int32))), .unset, .unset] []))) (fun tQ kQ => XS.icmpNo P16.here hx rfl (hb hby at_93) rfl (XT.ii_ne_f hc93) kQ) ?_
    show OwnDone p e below _ (T16.setTop (mkF m 96 #[.val (.int p1), .val (.int p2), .val (.ref a1), .val (.int (p1 &&& (15 : Int32))), .unset, .unset] []))
    refine OwnDone.go (A := (T16.setTop (mkF m 107 #[.val (.int p1), .val (.int p2), .val (.ref a1), .val (.int (p1 &&& (15 : Int32))), .val (.int p2), .unset] [(.int p2)]))) (fun tQ kQ => ?_) ?_
    · refine XS.iloadN P16.here hx rfl (hb hby at_96) rfl ?_
      show Steps p.tables e below (T16.setTop (mkF m 97 #[.val (.int p1), .val (.int p2), .val (.ref a1), .val (.int (p1 &&& (15 : Int32))), .unset, .unset] [(.int p2)])) _
      refine XS.goto P16.here hx rfl (pc0 := 97) (pc' := 103) rfl (hb hby at_97) (by decide) (by decide) ?_
      show Steps p.tables e below (T16.setTop (mkF m 103 #[.val (.int p1), .val (.int p2), .val (.ref a1), .val (.int (p1 &&& (15 : Int32))), .unset, .unset] [(.int p2)])) _
      refine XS.istore P16.here hx rfl (hb hby at_103) rfl (l' := #[.val (.int p1), .val (.int p2), .val (.ref a1), .val (.int (p1 &&& (15 : Int32))), .val (.int p2), .unset]) rfl ?_
      show Steps p.tables e below (T16.setTop (mkF m 105 #[.val (.int p1), .val (.int p2), .val (.ref a1), .val (.int (p1 &&& (15 : Int32))), .val (.int p2), .unset] [])) _
      refine XS.iload P16.here hx rfl (hb hby at_105) rfl ?_
      show Steps p.tables e below (T16.setTop (mkF m 107 #[.val (.int p1), .val (.int p2), .val (.ref a1), .val (.int (p1 &&& (15 : Int32))), .val (.int p2), .unset] [(.int p2)])) _
      exact kQ
    show OwnDone p e below _ (T16.setTop (mkF m 107 #[.val (.int p1), .val (.int p2), .val (.ref a1), .val (.int (p1 &&& (15 : Int32))), .val (.int p2), .unset] [(.int p2)]))
    refine own_callS (y := (⟨"com/example/tidx/tidx/value/Type", "ofJdbcType", "(I)Lcom/example/tidx/tidx/value/Type;"⟩ : MethodName)) C P16 (hw _ (List.mem_of_getElem? (i := 1) rfl)) (hw _ (List.mem_of_getElem? (i := 2) rfl)) (hw _ (List.mem_of_getElem? (i := 3) rfl)) (hw _ (List.mem_of_getElem? (i := 4) rfl)) (by decide) (rm1 l Z a0 hw p2 h16 P16.old ta tk b0 b1 b2 b3 b4 b5 b6 ST YZ F0 F1 F2 F3 F4 F5 F6) (as := [(.int p2)]) (rest := []) pd_0 rfl rfl (wd := 0) rfl rfl at_107 all0 (by decide) (by decide) (by decide) (by decide) (fun T17 h17 v17 P17 K17 hQ17 => ?_)
    obtain ⟨rfl, rfl⟩ := hQ17
    show OwnDone p e below _ (T17.setTop (mkF m 110 #[.val (.int p1), .val (.int p2), .val (.ref a1), .val (.int (p1 &&& (15 : Int32))), .val (.int p2), .unset] [(own_sel (12) p2 b6 (own_sel (5) p2 b5 (own_sel (8) p2 b4 (own_sel (16) p2 b3 (own_sel (12) p2 b2 (own_sel (-5) p2 b1 (own_sel (4) p2 b0 .null)))))))]))
    refine OwnDone.go (A := (T17.setTop (mkF m 116 #[.val (.int p1), .val (.int p2), .val (.ref a1), .val (.int (p1 &&& (15 : Int32))), .val (.int p2), .val (own_sel (12) p2 b6 (own_sel (5) p2 b5 (own_sel (8) p2 b4 (own_sel (16) p2 b3 (own_sel (12) p2 b2 (own_sel (-5) p2 b1 (own_sel (4) p2 b0 .null)))))))] [(.int p2), (own_sel (12) p2 b6 (own_sel (5) p2 b5 (own_sel (8) p2 b4 (own_sel (16) p2 b3 (own_sel (12) p2 b2 (own_sel (-5) p2 b1 (own_sel (4) p2 b0 .null)))))))]))) (fun tQ kQ => ?_) ?_
    · refine XS.astoreS P17.here hx rfl (hb hby at_110) rfl (own_selR (own_selR (own_selR (own_selR (own_selR (own_selR (own_selR rfl))))))) (XT.cat1 (own_selR (own_selR (own_selR (own_selR (own_selR (own_selR (own_selR rfl)))))))) rfl (Or.inl rfl) ?_
      show Steps p.tables e below (T17.setTop (mkF m 112 #[.val (.int p1), .val (.int p2), .val (.ref a1), .val (.int (p1 &&& (15 : Int32))), .val (.int p2), .val (own_sel (12) p2 b6 (own_sel (5) p2 b5 (own_sel (8) p2 b4 (own_sel (16) p2 b3 (own_sel (12) p2 b2 (own_sel (-5) p2 b1 (own_sel (4) p2 b0 .null)))))))] [])) _
      refine XS.aload P17.here hx rfl (hb hby at_112) rfl (own_selR (own_selR (own_selR (own_selR (own_selR (own_selR (own_selR rfl))))))) ?_
      show Steps p.tables e below (T17.setTop (mkF m 114 #[.val (.int p1), .val (.int p2), .val (.ref a1), .val (.int (p1 &&& (15 : Int32))), .val (.int p2), .val (own_sel (12) p2 b6 (own_sel (5) p2 b5 (own_sel (8) p2 b4 (own_sel (16) p2 b3 (own_sel (12) p2 b2 (own_sel (-5) p2 b1 (own_sel (4) p2 b0 .null)))))))] [(own_sel (12) p2 b6 (own_sel (5) p2 b5 (own_sel (8) p2 b4 (own_sel (16) p2 b3 (own_sel (12) p2 b2 (own_sel (-5) p2 b1 (own_sel (4) p2 b0 .null)))))))])) _
      refine XS.iload P17.here hx rfl (hb hby at_114) rfl ?_
      show Steps p.tables e below (T17.setTop (mkF m 116 #[.val (.int p1), .val (.int p2), .val (.ref a1), .val (.int (p1 &&& (15 : Int32))), .val (.int p2), .val (own_sel (12) p2 b6 (own_sel (5) p2 b5 (own_sel (8) p2 b4 (own_sel (16) p2 b3 (own_sel (12) p2 b2 (own_sel (-5) p2 b1 (own_sel (4) p2 b0 .null)))))))] [(.int p2), (own_sel (12) p2 b6 (own_sel (5) p2 b5 (own_sel (8) p2 b4 (own_sel (16) p2 b3 (own_sel (12) p2 b2 (own_sel (-5) p2 b1 (own_sel (4) p2 b0 .null)))))))])) _
      exact kQ
    show OwnDone p e below _ (T17.setTop (mkF m 116 #[.val (.int p1), .val (.int p2), .val (.ref a1), .val (.int (p1 &&& (15 : Int32))), .val (.int p2), .val (own_sel (12) p2 b6 (own_sel (5) p2 b5 (own_sel (8) p2 b4 (own_sel (16) p2 b3 (own_sel (12) p2 b2 (own_sel (-5) p2 b1 (own_sel (4) p2 b0 .null)))))))] [(.int p2), (own_sel (12) p2 b6 (own_sel (5) p2 b5 (own_sel (8) p2 b4 (own_sel (16) p2 b3 (own_sel (12) p2 b2 (own_sel (-5) p2 b1 (own_sel (4) p2 b0 .null)))))))]))
    refine own_callS (y := (⟨"com/example/tidx/tidx/value/TypeOfJdbcTypePinLaw", "expected", "(I)Lcom/example/tidx/tidx/value/Type;"⟩ : MethodName)) C P17 (hw _ (List.mem_of_getElem? (i := 16) rfl)) (hw _ (List.mem_of_getElem? (i := 17) rfl)) (hw _ (List.mem_of_getElem? (i := 18) rfl)) (hw _ (List.mem_of_getElem? (i := 19) rfl)) (by decide) (rm2 l Z a0 hw p2 h16 P17.old b0 b1 b3 b4 b5 b6 S0 S1 S3 S4 S5 S6) (as := [(.int p2)]) (rest := [(own_sel (12) p2 b6 (own_sel (5) p2 b5 (own_sel (8) p2 b4 (own_sel (16) p2 b3 (own_sel (12) p2 b2 (own_sel (-5) p2 b1 (own_sel (4) p2 b0 .null)))))))]) pd_0 rfl rfl (wd := 1) (own_w1 (XT.cat1 (own_selR (own_selR (own_selR (own_selR (own_selR (own_selR (own_selR rfl)))))))) own_w0 rfl) rfl at_116 all0 (by decide) (by decide) (by decide) (by decide) (fun T18 h18 v18 P18 K18 hQ18 => ?_)
    obtain ⟨rfl, rfl⟩ := hQ18
    show OwnDone p e below _ (T18.setTop (mkF m 119 #[.val (.int p1), .val (.int p2), .val (.ref a1), .val (.int (p1 &&& (15 : Int32))), .val (.int p2), .val (own_sel (12) p2 b6 (own_sel (5) p2 b5 (own_sel (8) p2 b4 (own_sel (16) p2 b3 (own_sel (12) p2 b2 (own_sel (-5) p2 b1 (own_sel (4) p2 b0 .null)))))))] [(own_exp p2 b0 b1 b3 b4 b5 b6), (own_sel (12) p2 b6 (own_sel (5) p2 b5 (own_sel (8) p2 b4 (own_sel (16) p2 b3 (own_sel (12) p2 b2 (own_sel (-5) p2 b1 (own_sel (4) p2 b0 .null)))))))]))
    refine OwnDone.go (A := (T18.setTop (mkF m 122 #[.val (.int p1), .val (.int p2), .val (.ref a1), .val (.int (p1 &&& (15 : Int32))), .val (.int p2), .val (own_sel (12) p2 b6 (own_sel (5) p2 b5 (own_sel (8) p2 b4 (own_sel (16) p2 b3 (own_sel (12) p2 b2 (own_sel (-5) p2 b1 (own_sel (4) p2 b0 .null)))))))] []))) (fun tQ kQ => XT.acmpNo P18.here hx rfl (hb hby at_119) rfl (own_selR (own_selR (own_selR (own_selR (own_selR (own_selR (own_selR rfl))))))) (own_expR _ _ _ _ _ _ _) (XT.aa_ne_f (own_same _ _ _ _ _ _ _ _)) kQ) ?_
    show OwnDone p e below _ (T18.setTop (mkF m 122 #[.val (.int p1), .val (.int p2), .val (.ref a1), .val (.int (p1 &&& (15 : Int32))), .val (.int p2), .val (own_sel (12) p2 b6 (own_sel (5) p2 b5 (own_sel (8) p2 b4 (own_sel (16) p2 b3 (own_sel (12) p2 b2 (own_sel (-5) p2 b1 (own_sel (4) p2 b0 .null)))))))] []))
    refine OwnDone.go (A := (T18.setTop (mkF m 127 #[.val (.int p1), .val (.int p2), .val (.ref a1), .val (.int (p1 &&& (15 : Int32))), .val (.int p2), .val (own_sel (12) p2 b6 (own_sel (5) p2 b5 (own_sel (8) p2 b4 (own_sel (16) p2 b3 (own_sel (12) p2 b2 (own_sel (-5) p2 b1 (own_sel (4) p2 b0 .null)))))))] [(.int (1 : Int32))]))) (fun tQ kQ => ?_) ?_
    · refine XS.iconst P18.here hx rfl (hb hby at_122) ?_
      show Steps p.tables e below (T18.setTop (mkF m 123 #[.val (.int p1), .val (.int p2), .val (.ref a1), .val (.int (p1 &&& (15 : Int32))), .val (.int p2), .val (own_sel (12) p2 b6 (own_sel (5) p2 b5 (own_sel (8) p2 b4 (own_sel (16) p2 b3 (own_sel (12) p2 b2 (own_sel (-5) p2 b1 (own_sel (4) p2 b0 .null)))))))] [(.int (1 : Int32))])) _
      refine XS.goto P18.here hx rfl (pc0 := 123) (pc' := 127) rfl (hb hby at_123) (by decide) (by decide) ?_
      show Steps p.tables e below (T18.setTop (mkF m 127 #[.val (.int p1), .val (.int p2), .val (.ref a1), .val (.int (p1 &&& (15 : Int32))), .val (.int p2), .val (own_sel (12) p2 b6 (own_sel (5) p2 b5 (own_sel (8) p2 b4 (own_sel (16) p2 b3 (own_sel (12) p2 b2 (own_sel (-5) p2 b1 (own_sel (4) p2 b0 .null)))))))] [(.int (1 : Int32))])) _
      exact kQ
    show OwnDone p e below _ (T18.setTop (mkF m 127 #[.val (.int p1), .val (.int p2), .val (.ref a1), .val (.int (p1 &&& (15 : Int32))), .val (.int p2), .val (own_sel (12) p2 b6 (own_sel (5) p2 b5 (own_sel (8) p2 b4 (own_sel (16) p2 b3 (own_sel (12) p2 b2 (own_sel (-5) p2 b1 (own_sel (4) p2 b0 .null)))))))] [(.int (1 : Int32))]))
    refine own_retN C P18 (by simp) (z' := (1 : Int32)) (by decide) at_127 (by decide) (by decide) rfl
  · refine OwnDone.go (A := (T16.setTop (mkF m 100 #[.val (.int p1), .val (.int p2), .val (.ref a1), .val (.int (p1 &&& (15 : Int32))), .unset, .unset] []))) (fun tQ kQ => XS.icmpYes P16.here hx rfl (pc0 := 93) (pc' := 100) rfl (hb hby at_93) rfl (XT.ii_ne_t hc93) (by decide) (by decide) kQ) ?_
    show OwnDone p e below _ (T16.setTop (mkF m 100 #[.val (.int p1), .val (.int p2), .val (.ref a1), .val (.int (p1 &&& (15 : Int32))), .unset, .unset] []))
    refine OwnDone.go (A := (T16.setTop (mkF m 102 #[.val (.int p1), .val (.int p2), .val (.ref a1), .val (.int (p1 &&& (15 : Int32))), .unset, .unset] [(.int (p1 &&& (15 : Int32))), (.ref a1)]))) (fun tQ kQ => ?_) ?_
    · refine XS.aloadN P16.here hx rfl (hb hby at_100) rfl rfl ?_
      show Steps p.tables e below (T16.setTop (mkF m 101 #[.val (.int p1), .val (.int p2), .val (.ref a1), .val (.int (p1 &&& (15 : Int32))), .unset, .unset] [(.ref a1)])) _
      refine XS.iloadN P16.here hx rfl (hb hby at_101) rfl ?_
      show Steps p.tables e below (T16.setTop (mkF m 102 #[.val (.int p1), .val (.int p2), .val (.ref a1), .val (.int (p1 &&& (15 : Int32))), .unset, .unset] [(.int (p1 &&& (15 : Int32))), (.ref a1)])) _
      exact kQ
    show OwnDone p e below _ (T16.setTop (mkF m 102 #[.val (.int p1), .val (.int p2), .val (.ref a1), .val (.int (p1 &&& (15 : Int32))), .unset, .unset] [(.int (p1 &&& (15 : Int32))), (.ref a1)]))
    obtain ⟨hk1, hk2⟩ := own_k15 p1 hc93
    obtain ⟨cv, hcv⟩ := own_code (vs := [(4 : Int32), (-5 : Int32), (12 : Int32), (16 : Int32), (8 : Int32), (5 : Int32), (3 : Int32), (-6 : Int32), (-4 : Int32), (11 : Int32), (13 : Int32), (17 : Int32), (7 : Int32), (9 : Int32), (0 : Int32)]) hk1 hk2
    refine OwnDone.go (A := (T16.setTop (mkF m 107 #[.val (.int p1), .val (.int p2), .val (.ref a1), .val (.int (p1 &&& (15 : Int32))), .val (.int cv), .unset] [(.int cv)]))) (fun tQ kQ => ?_) ?_
    · refine own_iaload C P16 Y16 hk1 hcv at_102 ?_
      show Steps p.tables e below (T16.setTop (mkF m 103 #[.val (.int p1), .val (.int p2), .val (.ref a1), .val (.int (p1 &&& (15 : Int32))), .unset, .unset] [(.int cv)])) _
      refine XS.istore P16.here hx rfl (hb hby at_103) rfl (l' := #[.val (.int p1), .val (.int p2), .val (.ref a1), .val (.int (p1 &&& (15 : Int32))), .val (.int cv), .unset]) rfl ?_
      show Steps p.tables e below (T16.setTop (mkF m 105 #[.val (.int p1), .val (.int p2), .val (.ref a1), .val (.int (p1 &&& (15 : Int32))), .val (.int cv), .unset] [])) _
      refine XS.iload P16.here hx rfl (hb hby at_105) rfl ?_
      show Steps p.tables e below (T16.setTop (mkF m 107 #[.val (.int p1), .val (.int p2), .val (.ref a1), .val (.int (p1 &&& (15 : Int32))), .val (.int cv), .unset] [(.int cv)])) _
      exact kQ
    show OwnDone p e below _ (T16.setTop (mkF m 107 #[.val (.int p1), .val (.int p2), .val (.ref a1), .val (.int (p1 &&& (15 : Int32))), .val (.int cv), .unset] [(.int cv)]))
    refine own_callS (y := (⟨"com/example/tidx/tidx/value/Type", "ofJdbcType", "(I)Lcom/example/tidx/tidx/value/Type;"⟩ : MethodName)) C P16 (hw _ (List.mem_of_getElem? (i := 1) rfl)) (hw _ (List.mem_of_getElem? (i := 2) rfl)) (hw _ (List.mem_of_getElem? (i := 3) rfl)) (hw _ (List.mem_of_getElem? (i := 4) rfl)) (by decide) (rm1 l Z a0 hw cv h16 P16.old ta tk b0 b1 b2 b3 b4 b5 b6 ST YZ F0 F1 F2 F3 F4 F5 F6) (as := [(.int cv)]) (rest := []) pd_0 rfl rfl (wd := 0) rfl rfl at_107 all0 (by decide) (by decide) (by decide) (by decide) (fun T19 h19 v19 P19 K19 hQ19 => ?_)
    obtain ⟨rfl, rfl⟩ := hQ19
    show OwnDone p e below _ (T19.setTop (mkF m 110 #[.val (.int p1), .val (.int p2), .val (.ref a1), .val (.int (p1 &&& (15 : Int32))), .val (.int cv), .unset] [(own_sel (12) cv b6 (own_sel (5) cv b5 (own_sel (8) cv b4 (own_sel (16) cv b3 (own_sel (12) cv b2 (own_sel (-5) cv b1 (own_sel (4) cv b0 .null)))))))]))
    refine OwnDone.go (A := (T19.setTop (mkF m 116 #[.val (.int p1), .val (.int p2), .val (.ref a1), .val (.int (p1 &&& (15 : Int32))), .val (.int cv), .val (own_sel (12) cv b6 (own_sel (5) cv b5 (own_sel (8) cv b4 (own_sel (16) cv b3 (own_sel (12) cv b2 (own_sel (-5) cv b1 (own_sel (4) cv b0 .null)))))))] [(.int cv), (own_sel (12) cv b6 (own_sel (5) cv b5 (own_sel (8) cv b4 (own_sel (16) cv b3 (own_sel (12) cv b2 (own_sel (-5) cv b1 (own_sel (4) cv b0 .null)))))))]))) (fun tQ kQ => ?_) ?_
    · refine XS.astoreS P19.here hx rfl (hb hby at_110) rfl (own_selR (own_selR (own_selR (own_selR (own_selR (own_selR (own_selR rfl))))))) (XT.cat1 (own_selR (own_selR (own_selR (own_selR (own_selR (own_selR (own_selR rfl)))))))) rfl (Or.inl rfl) ?_
      show Steps p.tables e below (T19.setTop (mkF m 112 #[.val (.int p1), .val (.int p2), .val (.ref a1), .val (.int (p1 &&& (15 : Int32))), .val (.int cv), .val (own_sel (12) cv b6 (own_sel (5) cv b5 (own_sel (8) cv b4 (own_sel (16) cv b3 (own_sel (12) cv b2 (own_sel (-5) cv b1 (own_sel (4) cv b0 .null)))))))] [])) _
      refine XS.aload P19.here hx rfl (hb hby at_112) rfl (own_selR (own_selR (own_selR (own_selR (own_selR (own_selR (own_selR rfl))))))) ?_
      show Steps p.tables e below (T19.setTop (mkF m 114 #[.val (.int p1), .val (.int p2), .val (.ref a1), .val (.int (p1 &&& (15 : Int32))), .val (.int cv), .val (own_sel (12) cv b6 (own_sel (5) cv b5 (own_sel (8) cv b4 (own_sel (16) cv b3 (own_sel (12) cv b2 (own_sel (-5) cv b1 (own_sel (4) cv b0 .null)))))))] [(own_sel (12) cv b6 (own_sel (5) cv b5 (own_sel (8) cv b4 (own_sel (16) cv b3 (own_sel (12) cv b2 (own_sel (-5) cv b1 (own_sel (4) cv b0 .null)))))))])) _
      refine XS.iload P19.here hx rfl (hb hby at_114) rfl ?_
      show Steps p.tables e below (T19.setTop (mkF m 116 #[.val (.int p1), .val (.int p2), .val (.ref a1), .val (.int (p1 &&& (15 : Int32))), .val (.int cv), .val (own_sel (12) cv b6 (own_sel (5) cv b5 (own_sel (8) cv b4 (own_sel (16) cv b3 (own_sel (12) cv b2 (own_sel (-5) cv b1 (own_sel (4) cv b0 .null)))))))] [(.int cv), (own_sel (12) cv b6 (own_sel (5) cv b5 (own_sel (8) cv b4 (own_sel (16) cv b3 (own_sel (12) cv b2 (own_sel (-5) cv b1 (own_sel (4) cv b0 .null)))))))])) _
      exact kQ
    show OwnDone p e below _ (T19.setTop (mkF m 116 #[.val (.int p1), .val (.int p2), .val (.ref a1), .val (.int (p1 &&& (15 : Int32))), .val (.int cv), .val (own_sel (12) cv b6 (own_sel (5) cv b5 (own_sel (8) cv b4 (own_sel (16) cv b3 (own_sel (12) cv b2 (own_sel (-5) cv b1 (own_sel (4) cv b0 .null)))))))] [(.int cv), (own_sel (12) cv b6 (own_sel (5) cv b5 (own_sel (8) cv b4 (own_sel (16) cv b3 (own_sel (12) cv b2 (own_sel (-5) cv b1 (own_sel (4) cv b0 .null)))))))]))
    refine own_callS (y := (⟨"com/example/tidx/tidx/value/TypeOfJdbcTypePinLaw", "expected", "(I)Lcom/example/tidx/tidx/value/Type;"⟩ : MethodName)) C P19 (hw _ (List.mem_of_getElem? (i := 16) rfl)) (hw _ (List.mem_of_getElem? (i := 17) rfl)) (hw _ (List.mem_of_getElem? (i := 18) rfl)) (hw _ (List.mem_of_getElem? (i := 19) rfl)) (by decide) (rm2 l Z a0 hw cv h16 P19.old b0 b1 b3 b4 b5 b6 S0 S1 S3 S4 S5 S6) (as := [(.int cv)]) (rest := [(own_sel (12) cv b6 (own_sel (5) cv b5 (own_sel (8) cv b4 (own_sel (16) cv b3 (own_sel (12) cv b2 (own_sel (-5) cv b1 (own_sel (4) cv b0 .null)))))))]) pd_0 rfl rfl (wd := 1) (own_w1 (XT.cat1 (own_selR (own_selR (own_selR (own_selR (own_selR (own_selR (own_selR rfl)))))))) own_w0 rfl) rfl at_116 all0 (by decide) (by decide) (by decide) (by decide) (fun T20 h20 v20 P20 K20 hQ20 => ?_)
    obtain ⟨rfl, rfl⟩ := hQ20
    show OwnDone p e below _ (T20.setTop (mkF m 119 #[.val (.int p1), .val (.int p2), .val (.ref a1), .val (.int (p1 &&& (15 : Int32))), .val (.int cv), .val (own_sel (12) cv b6 (own_sel (5) cv b5 (own_sel (8) cv b4 (own_sel (16) cv b3 (own_sel (12) cv b2 (own_sel (-5) cv b1 (own_sel (4) cv b0 .null)))))))] [(own_exp cv b0 b1 b3 b4 b5 b6), (own_sel (12) cv b6 (own_sel (5) cv b5 (own_sel (8) cv b4 (own_sel (16) cv b3 (own_sel (12) cv b2 (own_sel (-5) cv b1 (own_sel (4) cv b0 .null)))))))]))
    refine OwnDone.go (A := (T20.setTop (mkF m 122 #[.val (.int p1), .val (.int p2), .val (.ref a1), .val (.int (p1 &&& (15 : Int32))), .val (.int cv), .val (own_sel (12) cv b6 (own_sel (5) cv b5 (own_sel (8) cv b4 (own_sel (16) cv b3 (own_sel (12) cv b2 (own_sel (-5) cv b1 (own_sel (4) cv b0 .null)))))))] []))) (fun tQ kQ => XT.acmpNo P20.here hx rfl (hb hby at_119) rfl (own_selR (own_selR (own_selR (own_selR (own_selR (own_selR (own_selR rfl))))))) (own_expR _ _ _ _ _ _ _) (XT.aa_ne_f (own_same _ _ _ _ _ _ _ _)) kQ) ?_
    show OwnDone p e below _ (T20.setTop (mkF m 122 #[.val (.int p1), .val (.int p2), .val (.ref a1), .val (.int (p1 &&& (15 : Int32))), .val (.int cv), .val (own_sel (12) cv b6 (own_sel (5) cv b5 (own_sel (8) cv b4 (own_sel (16) cv b3 (own_sel (12) cv b2 (own_sel (-5) cv b1 (own_sel (4) cv b0 .null)))))))] []))
    refine OwnDone.go (A := (T20.setTop (mkF m 127 #[.val (.int p1), .val (.int p2), .val (.ref a1), .val (.int (p1 &&& (15 : Int32))), .val (.int cv), .val (own_sel (12) cv b6 (own_sel (5) cv b5 (own_sel (8) cv b4 (own_sel (16) cv b3 (own_sel (12) cv b2 (own_sel (-5) cv b1 (own_sel (4) cv b0 .null)))))))] [(.int (1 : Int32))]))) (fun tQ kQ => ?_) ?_
    · refine XS.iconst P20.here hx rfl (hb hby at_122) ?_
      show Steps p.tables e below (T20.setTop (mkF m 123 #[.val (.int p1), .val (.int p2), .val (.ref a1), .val (.int (p1 &&& (15 : Int32))), .val (.int cv), .val (own_sel (12) cv b6 (own_sel (5) cv b5 (own_sel (8) cv b4 (own_sel (16) cv b3 (own_sel (12) cv b2 (own_sel (-5) cv b1 (own_sel (4) cv b0 .null)))))))] [(.int (1 : Int32))])) _
      refine XS.goto P20.here hx rfl (pc0 := 123) (pc' := 127) rfl (hb hby at_123) (by decide) (by decide) ?_
      show Steps p.tables e below (T20.setTop (mkF m 127 #[.val (.int p1), .val (.int p2), .val (.ref a1), .val (.int (p1 &&& (15 : Int32))), .val (.int cv), .val (own_sel (12) cv b6 (own_sel (5) cv b5 (own_sel (8) cv b4 (own_sel (16) cv b3 (own_sel (12) cv b2 (own_sel (-5) cv b1 (own_sel (4) cv b0 .null)))))))] [(.int (1 : Int32))])) _
      exact kQ
    show OwnDone p e below _ (T20.setTop (mkF m 127 #[.val (.int p1), .val (.int p2), .val (.ref a1), .val (.int (p1 &&& (15 : Int32))), .val (.int cv), .val (own_sel (12) cv b6 (own_sel (5) cv b5 (own_sel (8) cv b4 (own_sel (16) cv b3 (own_sel (12) cv b2 (own_sel (-5) cv b1 (own_sel (4) cv b0 .null)))))))] [(.int (1 : Int32))]))
    refine own_retN C P20 (by simp) (z' := (1 : Int32)) (by decide) at_127 (by decide) (by decide) rfl
theorem own_list7 {c : Cell} {v0 v1 v2 v3 v4 v5 v6 : Value} (sz : c.slots.size = 7) (h0 : c.slots[(0 : Int32).toNatClampNeg]? = some v0) (h1 : c.slots[(1 : Int32).toNatClampNeg]? = some v1) (h2 : c.slots[(2 : Int32).toNatClampNeg]? = some v2) (h3 : c.slots[(3 : Int32).toNatClampNeg]? = some v3) (h4 : c.slots[(4 : Int32).toNatClampNeg]? = some v4) (h5 : c.slots[(5 : Int32).toNatClampNeg]? = some v5) (h6 : c.slots[(6 : Int32).toNatClampNeg]? = some v6) : c.slots.toList = [v0, v1, v2, v3, v4, v5, v6] := by
  obtain ⟨cl, ⟨L⟩, vm, mo⟩ := c
  match L, sz with
  | [a, b, cc, d, ee, f, g], _ =>
    cases h0; cases h1; cases h2; cases h3; cases h4; cases h5; cases h6; rfl
set_option maxRecDepth 65536 in
set_option maxHeartbeats 40000000 in
theorem comes_1 {Post : Tables → Env → Array Value → State → Outcome → State → Prop} (hpost : ∀ tb e args s v u, (limb_1_1.after args s (.returned v) u = true ∧ limb_1_2.after args s (.returned v) u = true ∧ True) → FrameEnd s (.returned v) u (Jvm.fieldLocs frame_1_writes args s ++ Jvm.arrayLocs frame_1_arrays args s ++ Jvm.staticLocs frame_1_statics s) 16 128 → Post tb e args s (.returned v) u) :
    ArmFor flags0 classFile x code maxLocals ret World_1 tables_1 room_1 Calls_1 rest_1 Pre_1 Post := by
  intro l hfl _ _ p e ha hc hk s m args below hf hA hF happ hP
  obtain ⟨hcalls, hrest, hpre⟩ := hP
  obtain ⟨-, -, -, hnamed, -, -, -, hat⟩ := (Spec.applies_iff hf).mp happ
  obtain ⟨hg, hn⟩ := and_e (Cond.before_iff.mp (show (Jvm.Cond.and given_1 narrow_1).before args s = true from hpre))
  obtain ⟨hcount, hg⟩ := and_e hg
  obtain ⟨w0, w1, rfl⟩ : ∃ w0 w1 : Value, args = #[w0, w1] := by
    have hs : args.size = 2 := by simpa [Cond.value, given_1] using hcount
    obtain ⟨L⟩ := args
    match L, hs with
    | [w0, w1], _ => exact ⟨w0, w1, rfl⟩
  have hw := fun d (hd : d ∈ tables_1) => atoms_spec (ws := Jvm.Cond.code x code maxLocals ret :: tables_1) hat d (List.mem_cons_of_mem _ hd)
  have hfit : Fit s := fun {y c} hc i hi => by
    obtain ⟨ha, rfl⟩ := Array.getElem?_eq_some_iff.mp hc
    have q := List.all_eq_true.mp ((Array.all_eq_true_iff_forall_mem.mp hF) _ (Array.getElem_mem ha)) i (List.mem_range.mpr hi)
    simpa [Array.getElem?_eq_getElem hi] using q
  obtain ⟨hg0, hg⟩ := and_e hg
  obtain ⟨i0, ei0⟩ := is_v hg0
  obtain rfl : w0 = (.int i0) := Option.some.inj ei0
  obtain ⟨i1, ei1⟩ := is_v hg
  obtain rfl : w1 = (.int i1) := Option.some.inj ei1
  obtain ⟨n0, hn⟩ := and_e hn
  obtain ⟨n1, hn⟩ := and_e hn
  obtain ⟨n2, hn⟩ := and_e hn
  obtain ⟨n3, hn⟩ := and_e hn
  obtain ⟨n4, hn⟩ := and_e hn
  obtain ⟨n5, hn⟩ := and_e hn
  obtain ⟨n6, hn⟩ := and_e hn
  obtain ⟨n7, hn⟩ := and_e hn
  obtain ⟨n8, hn⟩ := and_e hn
  obtain ⟨n9, hn⟩ := and_e hn
  obtain ⟨n10, hn⟩ := and_e hn
  obtain ⟨n11, hn⟩ := and_e hn
  obtain ⟨n12, hn⟩ := and_e hn
  obtain ⟨n13, hn⟩ := and_e hn
  obtain ⟨n14, hn⟩ := and_e hn
  obtain ⟨n15, hn⟩ := and_e hn
  obtain ⟨n16, hn⟩ := and_e hn
  obtain ⟨n17, hn⟩ := and_e hn
  obtain ⟨n18, hn⟩ := and_e hn
  obtain ⟨n19, hn⟩ := and_e hn
  obtain ⟨n20, hn⟩ := and_e hn
  obtain ⟨n21, hn⟩ := and_e hn
  obtain ⟨ta, evt⟩ := arr_v n0
  have ST := Sta.start evt (Or.inr ⟨(hw _ (List.mem_of_getElem? (i := 3) rfl)), (hw _ (List.mem_of_getElem? (i := 6) rfl))⟩)
  obtain ⟨ct, At⟩ := Arr.start evt n0
  have sz := own_seven evt At n1
  obtain ⟨b0, ev0⟩ := exa_v n2
  have F0 := own_fstart ev0 n4
  have L0 := own_elem evt ev0 At.1 n3
  have S0 := Sta.start ev0 (Or.inr ⟨(hw _ (List.mem_of_getElem? (i := 3) rfl)), (hw _ (List.mem_of_getElem? (i := 7) rfl))⟩)
  obtain ⟨b1, ev1⟩ := exa_v n5
  have F1 := own_fstart ev1 n7
  have L1 := own_elem evt ev1 At.1 n6
  have S1 := Sta.start ev1 (Or.inr ⟨(hw _ (List.mem_of_getElem? (i := 3) rfl)), (hw _ (List.mem_of_getElem? (i := 10) rfl))⟩)
  obtain ⟨b2, ev2⟩ := exa_v n8
  have F2 := own_fstart ev2 n10
  have L2 := own_elem evt ev2 At.1 n9
  have S2 := Sta.start ev2 (Or.inr ⟨(hw _ (List.mem_of_getElem? (i := 3) rfl)), (hw _ (List.mem_of_getElem? (i := 11) rfl))⟩)
  obtain ⟨b3, ev3⟩ := exa_v n11
  have F3 := own_fstart ev3 n13
  have L3 := own_elem evt ev3 At.1 n12
  have S3 := Sta.start ev3 (Or.inr ⟨(hw _ (List.mem_of_getElem? (i := 3) rfl)), (hw _ (List.mem_of_getElem? (i := 12) rfl))⟩)
  obtain ⟨b4, ev4⟩ := exa_v n14
  have F4 := own_fstart ev4 n16
  have L4 := own_elem evt ev4 At.1 n15
  have S4 := Sta.start ev4 (Or.inr ⟨(hw _ (List.mem_of_getElem? (i := 3) rfl)), (hw _ (List.mem_of_getElem? (i := 13) rfl))⟩)
  obtain ⟨b5, ev5⟩ := exa_v n17
  have F5 := own_fstart ev5 n19
  have L5 := own_elem evt ev5 At.1 n18
  have S5 := Sta.start ev5 (Or.inr ⟨(hw _ (List.mem_of_getElem? (i := 3) rfl)), (hw _ (List.mem_of_getElem? (i := 14) rfl))⟩)
  obtain ⟨b6, ev6⟩ := exa_v n20
  have F6 := own_fstart ev6 hn
  have L6 := own_elem evt ev6 At.1 n21
  have S6 := Sta.start ev6 (Or.inr ⟨(hw _ (List.mem_of_getElem? (i := 3) rfl)), (hw _ (List.mem_of_getElem? (i := 15) rfl))⟩)
  have YZ : OwnAry s s.heap ta ct.cls (.object "com/example/tidx/tidx/value/Type") [(.ref b0), (.ref b1), (.ref b2), (.ref b3), (.ref b4), (.ref b5), (.ref b6)] := ⟨ct, At, rfl, own_list7 sz L0 L1 L2 L3 L4 L5 L6⟩
  obtain ⟨n, o, h1, h2, h3, _, L, rfl, ⟨rfl, -, N⟩, hq⟩ := rm0 l s _ hw i0 i1 s.heap ⟨Nat.le_refl _, fun _ _ q => q⟩ ta ct.cls b0 b1 b2 b3 b4 b5 b6 ST YZ F0 F1 F2 F3 F4 F5 F6 S0 S1 S3 S4 S5 S6 tables_1 p e ha hc hk s m _ below hf ((Spec.applies_iff_loose hf).mp happ).1 ⟨rfl, State.Warmed39.refl s, rfl⟩ trivial
  refine ⟨n, _, h1, h2, h3, hpost _ _ _ _ _ _ ⟨Cond.after_iff.mpr rfl, Cond.after_iff.mpr (eq_i res_at (Term.int_eval (1)) rfl), trivial⟩ ⟨hq.1, hq.2.1, (hq.2.2.sift fun y hy => Or.inr ((N y hy).elim (fun q => (nomatch q)) id)).mono (by decide) (by decide)⟩⟩
theorem main_1_1 : Claimed_1_1 := comes_1 fun _ _ _ _ _ _ h hF => ⟨h.1, hF⟩
theorem main_1_2 : Claimed_1_2 := comes_1 fun _ _ _ _ _ _ h hF => ⟨h.2.1, hF⟩
end Jvm.Pilot.@@N@@
namespace Jvm.Pilot.@@N@@
open Jvm Jvm.ClassFile Sem Op Lib Jvm.Free Jvm.Stand Jvm.Pilot.@@N@@.Jvm.D
/-! MADE BY PROGRAM (witnessworld.py) out of the Statement's table words and the real class files: 13 classes; the members and pool entries that the words name. The judged class is class 1, her method 2. -/
namespace start1
open Jvm.ClassFile
def u (s : String) : CpInfo := .utf8 (stringToUtf16 s)
/-- a pool by its gaps: so many unusable entries, then the entry; so many at the end -/
def gap : Nat → List CpInfo → List CpInfo
  | 0, r => r
  | n + 1, r => .unusable :: gap n r
def poolList (es : List (Nat × CpInfo)) (last : Nat) : List CpInfo := es.foldr (fun e r => gap e.1 (e.2 :: r)) (gap last [])
def pool (es : List (Nat × CpInfo)) (last : Nat) : Array CpInfo := ⟨poolList es last⟩
def fileOf (pool : Array CpInfo) (this : Nat) (attrs : Array Attribute := #[]) (ms : Array MethodInfo := #[]) (fl : Nat := 33) (sup : Nat := 0) (ifs : Array Nat := #[]) (fds : Array FieldInfo := #[]) : ClassFile where
  minorVersion := 0
  majorVersion := 65
  constantPool := pool
  accessFlags := fl
  thisClass := this
  superClass := sup
  interfaces := ifs
  fields := fds
  methods := ms
  attributes := attrs
def plain (name : String) (sup : Option ClassId) : Class where
  name := name
  kind := .ordinary
  loader := none
  accessFlags := 33
  super := sup
  interfaces := #[]
  cf := none
  fields := #[]
  methods := #[]
  instanceTypes := #[]
  staticTypes := #[]
  resolved := #[]
  callSites := []
  init := .initialized
  statics := none
  mirror := none

def pool0 : Array CpInfo := pool [(5, u "<init>"), (0, u "()V"), (1, .class_ 10), (1, u "java/lang/Object")] 113

def k0m0 : Method := { name := "<init>", desc := "()V", sig := { parameters := [], returnType := none }, accessFlags := 1, code := none }
/-- java/lang/Object -/
def k0 : Class := { plain "java/lang/Object" none with
  accessFlags := 33
  interfaces := #[]
  cf := some (fileOf pool0 8 #[] #[{ accessFlags := 1, nameIndex := 5, descriptorIndex := 6, attributes := #[] }] 33 0 #[] #[])
  fields := #[]
  methods := #[k0m0]
  instanceTypes := #[]
  staticTypes := #[]
  resolved := Array.replicate 124 none
  statics := none }

def pool1 : Array CpInfo := pool [(2, .class_ 4), (1, u "java/lang/Object"), (0, u "<init>"), (0, u "()V"), (0, .fieldref 8 9), (0, .class_ 10), (0, .nameAndType 11 12), (0, u "com/example/tidx/tidx/value/Type"), (0, u "INTEGER"), (0, u "Lcom/example/tidx/tidx/value/Type;"), (0, .fieldref 8 14), (0, .nameAndType 15 12), (0, u "BIGINT"), (0, .fieldref 8 17), (0, .nameAndType 18 12), (0, u "VARCHAR"), (0, .fieldref 8 20), (0, .nameAndType 21 12), (0, u "BOOLEAN"), (0, .fieldref 8 23), (0, .nameAndType 24 12), (0, u "FLOAT"), (0, .fieldref 8 26), (0, .nameAndType 27 12), (0, u "SMALLINT"), (0, .methodref 8 29), (0, .nameAndType 30 31), (0, u "ofJdbcType"), (0, u "(I)Lcom/example/tidx/tidx/value/Type;"), (0, .methodref 33 34), (0, .class_ 35), (0, .nameAndType 36 31), (0, u "com/example/tidx/tidx/value/TypeOfJdbcTypePinLaw"), (0, u "expected"), (3, u "law"), (0, u "(II)Z")] 4

def k1m0 : Method := { name := "<init>", desc := "()V", sig := { parameters := [], returnType := none }, accessFlags := 2, code := none }
def k1c1 : Code := { maxStack := 2, maxLocals := 1, code := method_2_code, exceptionTable := #[], attributes := #[] }
def k1m1 : Method := { name := "expected", desc := "(I)Lcom/example/tidx/tidx/value/Type;", sig := { parameters := [.int], returnType := some (.object "com/example/tidx/tidx/value/Type") }, accessFlags := 10, code := some k1c1 }
def k1c2 : Code := { maxStack := 4, maxLocals := 6, code := code, exceptionTable := #[], attributes := #[] }
def k1m2 : Method := { name := "law", desc := "(II)Z", sig := { parameters := [.int, .int], returnType := some .boolean }, accessFlags := 9, code := some k1c2 }
/-- com/example/tidx/tidx/value/TypeOfJdbcTypePinLaw -/
def k1 : Class := { plain "com/example/tidx/tidx/value/TypeOfJdbcTypePinLaw" (some 0) with
  accessFlags := 49
  interfaces := #[]
  cf := some (fileOf pool1 33 #[] #[{ accessFlags := 2, nameIndex := 5, descriptorIndex := 6, attributes := #[] }, { accessFlags := 10, nameIndex := 36, descriptorIndex := 31, attributes := #[] }, { accessFlags := 9, nameIndex := 40, descriptorIndex := 41, attributes := #[] }] 49 2 #[] #[])
  fields := #[]
  methods := #[k1m0, k1m1, k1m2]
  instanceTypes := #[]
  staticTypes := #[]
  resolved := Array.replicate 46 none
  statics := none }

def pool2 : Array CpInfo := pool [(1, .class_ 2), (0, u "java/lang/constant/Constable"), (0, .class_ 4), (0, u "java/lang/Object")] 6

/-- java/lang/constant/Constable -/
def k2 : Class := { plain "java/lang/constant/Constable" (some 0) with
  accessFlags := 1537
  interfaces := #[]
  cf := some (fileOf pool2 1 #[] #[] 1537 3 #[] #[])
  fields := #[]
  methods := #[]
  instanceTypes := #[]
  staticTypes := #[]
  resolved := Array.replicate 11 none
  statics := none }

def pool3 : Array CpInfo := pool [(1, .class_ 2), (0, u "java/lang/Comparable"), (0, .class_ 4), (0, u "java/lang/Object")] 7

/-- java/lang/Comparable -/
def k3 : Class := { plain "java/lang/Comparable" (some 0) with
  accessFlags := 1537
  interfaces := #[]
  cf := some (fileOf pool3 1 #[] #[] 1537 3 #[] #[])
  fields := #[]
  methods := #[]
  instanceTypes := #[]
  staticTypes := #[]
  resolved := Array.replicate 12 none
  statics := none }

def pool4 : Array CpInfo := pool [(1, .class_ 2), (0, u "java/io/Serializable"), (0, .class_ 4), (0, u "java/lang/Object")] 2

/-- java/io/Serializable -/
def k4 : Class := { plain "java/io/Serializable" (some 0) with
  accessFlags := 1537
  interfaces := #[]
  cf := some (fileOf pool4 1 #[] #[] 1537 3 #[] #[])
  fields := #[]
  methods := #[]
  instanceTypes := #[]
  staticTypes := #[]
  resolved := Array.replicate 7 none
  statics := none }

def pool5 : Array CpInfo := pool [(2, .class_ 4), (1, u "java/lang/Enum"), (0, u "name"), (0, u "Ljava/lang/String;"), (2, u "ordinal"), (0, u "I"), (1, .class_ 14), (1, u "java/lang/Object"), (4, u "hash"), (86, .class_ 108), (1, u "java/lang/Enum$EnumDesc"), (2, .class_ 112), (0, u "java/lang/constant/Constable"), (0, .class_ 114), (0, u "java/lang/Comparable"), (0, .class_ 116), (0, u "java/io/Serializable")] 87

/-- java/lang/Enum -/
def k5 : Class := { plain "java/lang/Enum" (some 0) with
  accessFlags := 1057
  interfaces := #[2, 3, 4]
  cf := some (fileOf pool5 2 #[.nestMembers #[106]] #[] 1057 12 #[111, 113, 115] #[{ accessFlags := 18, nameIndex := 5, descriptorIndex := 6, attributes := #[] }, { accessFlags := 18, nameIndex := 9, descriptorIndex := 10, attributes := #[] }, { accessFlags := 2, nameIndex := 19, descriptorIndex := 10, attributes := #[] }])
  fields := #[{ name := "name", type := (.object "java/lang/String"), accessFlags := 18, slot := 0, constantValue := 0 }, { name := "ordinal", type := .int, accessFlags := 18, slot := 1, constantValue := 0 }, { name := "hash", type := .int, accessFlags := 2, slot := 2, constantValue := 0 }]
  methods := #[]
  instanceTypes := #[(.object "java/lang/String"), .int, .int]
  staticTypes := #[]
  resolved := Array.replicate 204 none
  statics := none }

def pool6 : Array CpInfo := pool [(1, .class_ 2), (0, u "com/example/tidx/tidx/value/Type"), (2, u "INTEGER"), (0, u "Lcom/example/tidx/tidx/value/Type;"), (2, u "BIGINT"), (2, u "TEXT"), (2, u "BOOLEAN"), (2, u "FLOAT"), (2, u "SMALLINT"), (2, u "VARCHAR"), (2, u "$VALUES"), (0, u "[Lcom/example/tidx/tidx/value/Type;"), (6, .class_ 37), (1, u "java/lang/Enum"), (8, u "sqlName"), (0, u "Ljava/lang/String;"), (2, u "javaClass"), (0, u "Ljava/lang/Class;"), (0, .fieldref 1 53), (0, .nameAndType 54 55), (0, u "jdbcType"), (0, u "I"), (2, u "precision"), (2, u "OTHER_NAMES"), (0, u "Ljava/util/Map;"), (6, .fieldref 1 70), (0, .nameAndType 71 28), (0, u "TYPES"), (113, u "MAX_LENGTH"), (14, u "ofJdbcType"), (0, u "(I)Lcom/example/tidx/tidx/value/Type;")] 27

def k6c0 : Code := { maxStack := 2, maxLocals := 6, code := prog_194_method_7_code, exceptionTable := #[], attributes := #[] }
def k6m0 : Method := { name := "ofJdbcType", desc := "(I)Lcom/example/tidx/tidx/value/Type;", sig := { parameters := [.int], returnType := some (.object "com/example/tidx/tidx/value/Type") }, accessFlags := 9, code := some k6c0 }
/-- com/example/tidx/tidx/value/Type -/
def k6 : Class := { plain "com/example/tidx/tidx/value/Type" (some 5) with
  accessFlags := 16433
  interfaces := #[]
  cf := some (fileOf pool6 1 #[] #[{ accessFlags := 9, nameIndex := 200, descriptorIndex := 201, attributes := #[] }] 16433 35 #[] #[{ accessFlags := 16409, nameIndex := 5, descriptorIndex := 6, attributes := #[] }, { accessFlags := 16409, nameIndex := 9, descriptorIndex := 6, attributes := #[] }, { accessFlags := 16409, nameIndex := 12, descriptorIndex := 6, attributes := #[] }, { accessFlags := 16409, nameIndex := 15, descriptorIndex := 6, attributes := #[] }, { accessFlags := 16409, nameIndex := 18, descriptorIndex := 6, attributes := #[] }, { accessFlags := 16409, nameIndex := 21, descriptorIndex := 6, attributes := #[] }, { accessFlags := 16409, nameIndex := 24, descriptorIndex := 6, attributes := #[] }, { accessFlags := 25, nameIndex := 185, descriptorIndex := 55, attributes := #[] }, { accessFlags := 26, nameIndex := 71, descriptorIndex := 28, attributes := #[] }, { accessFlags := 26, nameIndex := 61, descriptorIndex := 62, attributes := #[] }, { accessFlags := 18, nameIndex := 46, descriptorIndex := 47, attributes := #[] }, { accessFlags := 18, nameIndex := 50, descriptorIndex := 51, attributes := #[] }, { accessFlags := 18, nameIndex := 54, descriptorIndex := 55, attributes := #[] }, { accessFlags := 18, nameIndex := 58, descriptorIndex := 55, attributes := #[] }, { accessFlags := 4122, nameIndex := 27, descriptorIndex := 28, attributes := #[] }])
  fields := #[{ name := "INTEGER", type := (.object "com/example/tidx/tidx/value/Type"), accessFlags := 16409, slot := 0, constantValue := 0 }, { name := "BIGINT", type := (.object "com/example/tidx/tidx/value/Type"), accessFlags := 16409, slot := 1, constantValue := 0 }, { name := "TEXT", type := (.object "com/example/tidx/tidx/value/Type"), accessFlags := 16409, slot := 2, constantValue := 0 }, { name := "BOOLEAN", type := (.object "com/example/tidx/tidx/value/Type"), accessFlags := 16409, slot := 3, constantValue := 0 }, { name := "FLOAT", type := (.object "com/example/tidx/tidx/value/Type"), accessFlags := 16409, slot := 4, constantValue := 0 }, { name := "SMALLINT", type := (.object "com/example/tidx/tidx/value/Type"), accessFlags := 16409, slot := 5, constantValue := 0 }, { name := "VARCHAR", type := (.object "com/example/tidx/tidx/value/Type"), accessFlags := 16409, slot := 6, constantValue := 0 }, { name := "MAX_LENGTH", type := .int, accessFlags := 25, slot := 7, constantValue := 0 }, { name := "TYPES", type := (.array (.object "com/example/tidx/tidx/value/Type")), accessFlags := 26, slot := 8, constantValue := 0 }, { name := "OTHER_NAMES", type := (.object "java/util/Map"), accessFlags := 26, slot := 9, constantValue := 0 }, { name := "sqlName", type := (.object "java/lang/String"), accessFlags := 18, slot := 3, constantValue := 0 }, { name := "javaClass", type := (.object "java/lang/Class"), accessFlags := 18, slot := 4, constantValue := 0 }, { name := "jdbcType", type := .int, accessFlags := 18, slot := 5, constantValue := 0 }, { name := "precision", type := .int, accessFlags := 18, slot := 6, constantValue := 0 }, { name := "$VALUES", type := (.array (.object "com/example/tidx/tidx/value/Type")), accessFlags := 4122, slot := 10, constantValue := 0 }]
  methods := #[k6m0]
  instanceTypes := #[(.object "java/lang/String"), .int, .int, (.object "java/lang/String"), (.object "java/lang/Class"), .int, .int]
  staticTypes := #[(.object "com/example/tidx/tidx/value/Type"), (.object "com/example/tidx/tidx/value/Type"), (.object "com/example/tidx/tidx/value/Type"), (.object "com/example/tidx/tidx/value/Type"), (.object "com/example/tidx/tidx/value/Type"), (.object "com/example/tidx/tidx/value/Type"), (.object "com/example/tidx/tidx/value/Type"), .int, (.array (.object "com/example/tidx/tidx/value/Type")), (.object "java/util/Map"), (.array (.object "com/example/tidx/tidx/value/Type"))]
  resolved := Array.replicate 229 none
  statics := some 0 }

def pool7 : Array CpInfo := pool [(1, u "java/lang/Cloneable"), (0, .class_ 1), (0, u "java/lang/Object"), (0, .class_ 3)] 3

/-- java/lang/Cloneable -/
def k7 : Class := { plain "java/lang/Cloneable" (some 0) with
  accessFlags := 1537
  interfaces := #[]
  cf := some (fileOf pool7 2 #[] #[] 1537 4 #[] #[])
  fields := #[]
  methods := #[]
  instanceTypes := #[]
  staticTypes := #[]
  resolved := Array.replicate 8 none
  statics := none }

/-- the primitive byte -/
def k8 : Class := { plain "byte" none with kind := .primitive 'B', accessFlags := 0x411 }
/-- [B -/
def k9 : Class := { plain "[B" (some 0) with kind := .array 8 .byte, interfaces := #[7, 4], accessFlags := 1041 }

/-- the primitive int -/
def k10 : Class := { plain "int" none with kind := .primitive 'I', accessFlags := 0x411 }
/-- [I -/
def k11 : Class := { plain "[I" (some 0) with kind := .array 10 .int, interfaces := #[7, 4], accessFlags := 1041 }

/-- [Lcom/example/tidx/tidx/value/Type; -/
def k12 : Class := { plain "[Lcom/example/tidx/tidx/value/Type;" (some 0) with kind := .array 6 (.object "com/example/tidx/tidx/value/Type"), interfaces := #[7, 4], accessFlags := 1041 }

def heap : Heap := #[{ cls := 6, slots := #[.ref 2, .ref 3, .ref 4, .ref 5, .ref 6, .ref 7, .ref 8, .int 0, .ref 1, .null, .null], vm := .statics 6 },
  { cls := 12, slots := #[.ref 2, .ref 3, .ref 4, .ref 5, .ref 6, .ref 7, .ref 8], vm := .none },
  { cls := 6, slots := #[.null, .int 0, .int 0, .null, .null, .int 4, .int 0], vm := .none },
  { cls := 6, slots := #[.null, .int 1, .int 0, .null, .null, .int (-5), .int 0], vm := .none },
  { cls := 6, slots := #[.null, .int 2, .int 0, .null, .null, .int 12, .int 0], vm := .none },
  { cls := 6, slots := #[.null, .int 3, .int 0, .null, .null, .int 16, .int 0], vm := .none },
  { cls := 6, slots := #[.null, .int 4, .int 0, .null, .null, .int 8, .int 0], vm := .none },
  { cls := 6, slots := #[.null, .int 5, .int 0, .null, .null, .int 5, .int 0], vm := .none },
  { cls := 6, slots := #[.null, .int 6, .int 0, .null, .null, .int 12, .int 0], vm := .none }]
def classes : Array Class := #[k0, k1, k2, k3, k4, k5, k6, k7, k8, k9, k10, k11, k12]
def interned : List (Array UInt16 × Addr) := []
def slotsUsed : Nat := 67
def theMethod : MethodId := ⟨1, 2⟩
def args0 : Array Value := #[.int 5, .int 7]
def aboutOver (below : List Frame) : State where
  vm := { classes := classes, interned := interned.toArray }
  heap := heap
  slotsUsed := slotsUsed
  threads := #[{ frames := .invoking theMethod args0 :: below }]
def below0 : List Frame := [.native { method := ⟨0, 0⟩, args := #[] }]
def about1 : State := aboutOver below0
def p0 : Program := .bare "" "" ""
def e0 : Env := launch0.env 0 0 0
theorem w_frames : about1.frames = Frame.invoking theMethod args0 :: below0 := rfl
set_option maxRecDepth 65536 in
theorem w_args : argsFit about1.vm theMethod args0 = true := by decide +kernel
set_option maxRecDepth 65536 in
theorem w_heap : heapFits about1 = true := by decide +kernel
set_option maxRecDepth 65536 in
theorem w_runnable : about1.curStatus? = some .runnable := by decide +kernel
set_option maxRecDepth 65536 in
theorem w_alone : about1.alone = true := by decide +kernel
set_option maxRecDepth 65536 in
theorem w_named : about1.methodNamed? x = some theMethod := by decide +kernel
set_option maxRecDepth 65536 in
theorem w_hears : about1.hears theMethod below0 = true := by decide +kernel
set_option maxRecDepth 65536 in
theorem w_ripe : about1.ripe theMethod args0 below0 = true := by decide +kernel
theorem w_running : about1.status = .running := rfl
set_option maxRecDepth 65536 in
theorem w_room : about1.hasRoom e0.platform room_1 = true :=
  launch0.hasRoom_least _ room_1 (by decide +kernel) (by decide +kernel) (by decide +kernel) (by decide +kernel) (by decide +kernel) (by decide +kernel)
theorem allAtoms_all (ts : List Jvm.Cond) (a : Array Jvm.Value) (st : Jvm.State) : (allAtoms ts).before a st = ts.all (fun c => c.before a st) := by
  induction ts with
  | nil => rfl
  | cons c t ih =>
    show (Jvm.Cond.and c (allAtoms t)).before a st = _
    rw [Jvm.Cond.before_and, ih, List.all_cons]
def words1 : List Jvm.Cond := Jvm.Cond.code x code maxLocals ret :: tables_1
/-- a 'code' word, met by the world's own term for the bytes: nothing is compared byte by byte -/
theorem code_word {y : MethodName} {bytes : ByteArray} {mx : Nat} {rt : Option FieldType} {a : Array Value} {s : State} {m : MethodId} {meth : Method} {c : Code} (h1 : s.methodNamed? y = some m) (h2 : s.vm.method? m = some meth) (h3 : meth.code = some c) (h4 : c.code = bytes)
    (h5 : (c.maxLocals == mx && c.exceptionTable.isEmpty && decide (c.maxStack ≤ mostOperands) && decide (meth.sig.returnType = rt) && !meth.locks && decide (parseMethodDescriptor y.desc = some meth.sig)) = true) : (Jvm.Cond.code y bytes mx rt).before a s = true := by
  simp only [Bool.and_eq_true, beq_iff_eq, Bool.not_eq_true', decide_eq_true_eq] at h5
  obtain ⟨⟨⟨⟨⟨g1, g2⟩, g3⟩, g4⟩, g5⟩, g6⟩ := h5
  simp [Cond.before, Cond.holds, Cond.value, h1, h2, h3, h4, g1, g2, g3, g4, g5, g6]
def isCode : Jvm.Cond → Bool
  | .code _ _ _ _ => true
  | _ => false
theorem all_split {L : List Jvm.Cond} {P : Jvm.Cond → Bool} (h1 : L.all (fun c => isCode c || P c) = true) (h2 : ∀ c ∈ L.filter isCode, P c = true) : L.all P = true := by
  refine List.all_eq_true.mpr fun c hc => ?_
  have h := List.all_eq_true.mp h1 c hc
  rcases Bool.eq_false_or_eq_true (isCode c) with hi | hi
  · exact h2 c (List.mem_filter.mpr ⟨hc, hi⟩)
  · simpa [hi] using h
set_option maxRecDepth 65536 in
theorem w_c0 : (Jvm.Cond.code x code maxLocals ret).before args0 about1 = true := code_word (m := ⟨1, 2⟩) (meth := k1m2) (c := k1c2) (by decide +kernel) rfl rfl rfl (by decide +kernel)
set_option maxRecDepth 65536 in
theorem w_c1 : (Jvm.Cond.code ({ cls := "com/example/tidx/tidx/value/Type", name := "ofJdbcType", desc := "(I)Lcom/example/tidx/tidx/value/Type;" } : Jvm.MethodName) prog_194_method_7_code (6 : Nat) (Option.some (Jvm.ClassFile.FieldType.object "com/example/tidx/tidx/value/Type"))).before args0 about1 = true := code_word (m := ⟨6, 0⟩) (meth := k6m0) (c := k6c0) (by decide +kernel) rfl rfl rfl (by decide +kernel)
set_option maxRecDepth 65536 in
theorem w_c2 : (Jvm.Cond.code ({ cls := "com/example/tidx/tidx/value/TypeOfJdbcTypePinLaw", name := "expected", desc := "(I)Lcom/example/tidx/tidx/value/Type;" } : Jvm.MethodName) method_2_code (1 : Nat) (Option.some (Jvm.ClassFile.FieldType.object "com/example/tidx/tidx/value/Type"))).before args0 about1 = true := code_word (m := ⟨1, 1⟩) (meth := k1m1) (c := k1c1) (by decide +kernel) rfl rfl rfl (by decide +kernel)
def codes1 : List Jvm.Cond := [Jvm.Cond.code x code maxLocals ret, Jvm.Cond.code ({ cls := "com/example/tidx/tidx/value/Type", name := "ofJdbcType", desc := "(I)Lcom/example/tidx/tidx/value/Type;" } : Jvm.MethodName) prog_194_method_7_code (6 : Nat) (Option.some (Jvm.ClassFile.FieldType.object "com/example/tidx/tidx/value/Type")), Jvm.Cond.code ({ cls := "com/example/tidx/tidx/value/TypeOfJdbcTypePinLaw", name := "expected", desc := "(I)Lcom/example/tidx/tidx/value/Type;" } : Jvm.MethodName) method_2_code (1 : Nat) (Option.some (Jvm.ClassFile.FieldType.object "com/example/tidx/tidx/value/Type"))]
set_option maxRecDepth 65536 in
theorem codes_eq : words1.filter isCode = codes1 := rfl
theorem w_codes : ∀ c ∈ words1.filter isCode, c.before args0 about1 = true := by
  rw [codes_eq]
  intro c hc
  simp only [codes1, List.mem_cons, List.not_mem_nil, or_false] at hc
  rcases hc with rfl | rfl | rfl
  · exact w_c0
  · exact w_c1
  · exact w_c2
set_option maxRecDepth 65536 in
theorem w_t1 : (words1.take 24).all (fun c => isCode c || c.before args0 about1) = true := by decide +kernel
set_option maxRecDepth 65536 in
theorem w_t2 : (words1.drop 24).all (fun c => isCode c || c.before args0 about1) = true := by decide +kernel
theorem w_tables : (allAtoms (Jvm.Cond.code x code maxLocals ret :: tables_1)).before args0 about1 = true := by
  rw [allAtoms_all]
  show words1.all (fun c => c.before args0 about1) = true
  refine all_split ?_ w_codes
  rw [← List.take_append_drop 24 words1, List.all_append, w_t1, w_t2]
  rfl
set_option maxRecDepth 65536 in
theorem w_case : (Jvm.Cond.and given_1 narrow_1).before args0 about1 = true := by decide +kernel
theorem w_applies : (headSpec (Jvm.Cond.code x code maxLocals ret :: tables_1) room_1).applies x e0.platform about1 = true :=
  (Spec.applies_iff w_frames).mpr ⟨w_running, w_runnable, w_alone, w_named, w_hears, w_ripe, w_room, w_tables⟩
theorem atStart : AtStart classFile x code maxLocals ret World_1 tables_1 room_1 Calls_1 rest_1 Pre_1 launch0 p0 e0 about1 theMethod args0 below0 :=
  ⟨lists_1, trivial, launch0.admits_env _ _ _, launch0.least_env, fairChoices_fair.cas, fairChoices_fair.clock, w_frames, w_args, w_heap, w_applies, trivial, trivial, w_case⟩
end start1
theorem witness_1 : WitnessClaimed_1 := ⟨start1.p0, start1.e0, start1.about1, start1.theMethod, start1.args0, start1.below0, start1.atStart⟩
end Jvm.Pilot.@@N@@
