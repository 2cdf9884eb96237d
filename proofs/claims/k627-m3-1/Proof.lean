import JvmDerived
import JvmDerived.Pilot.@@N@@Statement
import JvmDerived.Pilot.@@N@@Code
set_option linter.unusedVariables false
set_option linter.unusedSimpArgs false
namespace Jvm.Pilot.@@N@@
open Jvm Jvm.ClassFile Sem Op Lib Jvm.Free Jvm.Stand Jvm.LawKit Jvm.RoadKit Bundle Jvm.Pilot.@@N@@.Jvm.D
section Own
variable {p : Program} {l : Launch} {e : Env} {R : Room} {s : State} {m : MethodId} {args : Array Value} {below : List Frame} {meth : Method} {c : Code} {T : State} {cells slots : Nat} {Z : State} {a0 : Array Value} {h h' h0 : Heap} {ws ws' : List Addr}
  {own nm : String} {bytes : ByteArray} {maxL : Nat} {rt : Option FieldType} {W : State → Outcome → Prop} {pc : Nat} {Ls : Array Slot} {rest : List Value}
/-- the run from A ends as W says -/
def OwnDone (p : Program) (e : Env) (below : List Frame) (W : State → Outcome → Prop) (A : State) : Prop :=
  ∃ s₂ o, Steps p.tables e below A s₂ ∧ s₂.status = .running ∧ Ended s₂ below o ∧ W s₂ o
theorem OwnDone.go {A B : State} (h : ∀ t, Steps p.tables e below A t → Steps p.tables e below B t) (k : OwnDone p e below W A) : OwnDone p e below W B := by
  obtain ⟨s₂, o, h1, h2⟩ := k
  exact ⟨s₂, o, h _ h1, h2⟩
/-- how a body ends: what it returns and leaves (Q), and that it wrote nothing older than its start but the objects ws -/
def OwnEnds (s Z : State) (ws : List Addr) (h0 : Heap) (Q : Option Value → Heap → Prop) (k n : Nat) (s₂ : State) (o : Outcome) : Prop :=
  ∃ v L, o = .returned v ∧ (Q v s₂.heap ∧ Keep h0 s₂.heap ws ∧ ∀ y ∈ L, y.base ∈ ws ∨ h0.size ≤ y.base) ∧ FrameEnd s o s₂ L k n
/-- the surroundings of a walk -/
def OwnCx (p : Program) (Z s : State) (m : MethodId) (meth : Method) (c : Code) (own nm : String) (bytes : ByteArray) (maxL : Nat) (rt : Option FieldType) : Prop :=
  p.tables.exec = Jvm.exec ∧ Z.Warmed39 s.vm ∧ s.vm.findClass own = some m.cls ∧ meth.name = nm ∧ c.code = bytes ∧ c.maxLocals = maxL ∧ meth.sig.returnType = rt ∧ meth.locks = false
/-- where the walk stands -/
def OwnPos (p : Program) (l : Launch) (e : Env) (R : Room) (s : State) (m : MethodId) (args : Array Value) (below : List Frame) (meth : Method) (c : Code) (Z : State) (ws : List Addr) (h0 : Heap) (T : State) (h : Heap) (cells slots : Nat) : Prop :=
  ∃ locs, Stand p l e R s m args below meth c T locs cells slots ∧ T.heap = h ∧ s.heap = h0 ∧ (∀ y ∈ locs, y.base ∈ ws ∨ h0.size ≤ y.base) ∧ Ext Z.heap h0 ∧ ∀ a ∈ ws, Z.heap.size ≤ a
theorem OwnPos.here (P : OwnPos p l e R s m args below meth c Z ws h0 T h cells slots) : At T m c below := by
  obtain ⟨_, X, _⟩ := P; exact X.here
theorem OwnPos.keep (P : OwnPos p l e R s m args below meth c Z ws h0 T h cells slots) : Keep h0 h ws := by
  obtain ⟨locs, X, rfl, rfl, N, -, -⟩ := P
  have hs := X.same
  have far : ∀ (x : Addr) (c : Cell), s.heap[x]? = some c → x ∉ ws → ∀ i, (⟨x, i⟩ : Loc) ∉ locs := fun x c hx hn i hi => by
    rcases N _ hi with q | q
    · exact hn q
    · exact absurd (Array.getElem?_eq_some_iff.mp hx).1 (Nat.not_lt.mpr q)
  refine ⟨hs.2.1, fun x c hx hn => ?_, fun x c hx => ?_⟩
  · obtain ⟨c', h1, h2, h3, h4⟩ := hs.2.2.2.2.2 x c hx
    have e1 : c'.slots = c.slots := by
      apply Array.ext_getElem?
      intro i
      exact h4 i (far x c hx hn i)
    have e2 : c' = c := by rw [h2, e1]
    exact e2 ▸ h1
  · obtain ⟨c', h1, h2, h3, h4⟩ := hs.2.2.2.2.2 x c hx
    exact ⟨c', h1, by rw [h2], by rw [h2], h3⟩
theorem OwnPos.old (P : OwnPos p l e R s m args below meth c Z ws h0 T h cells slots) : Ext Z.heap h := by
  have K := P.keep
  obtain ⟨locs, X, eT, e0, N, E0, G0⟩ := P
  refine ⟨Nat.le_trans E0.1 K.1, fun a c ha => K.2.1 a c (E0.2 a c ha) fun q => ?_⟩
  exact absurd (Array.getElem?_eq_some_iff.mp ha).1 (Nat.not_lt.mpr (G0 a q))
theorem OwnPos.ge (P : OwnPos p l e R s m args below meth c Z ws h0 T h cells slots) : Z.heap.size ≤ h.size := P.old.1
/-- a method's contract -/
def OwnMeets (l : Launch) (y : MethodName) (bytes : ByteArray) (maxL : Nat) (rt : Option FieldType) (rm : Room) (Z : State) (ws : List Addr) (as : Array Value) (h0 : Heap) (Q : Option Value → Heap → Prop) : Prop :=
  ∀ wz, MetFree l y (head1 (Cond.code y bytes maxL rt :: wz) rm) (fun a U => a = as ∧ Z.Warmed39 U.vm ∧ U.heap = h0) (fun _ _ _ _ _ => True) (fun _ U o U' => ∃ v L, o = .returned v ∧ (Q v U'.heap ∧ Keep h0 U'.heap ws ∧ ∀ y ∈ L, y.base ∈ ws ∨ h0.size ≤ y.base) ∧ FrameEnd U o U' L rm.cells rm.slots)
theorem OwnMeets.of {y : MethodName} {rm : Room} {as : Array Value} {Q : Option Value → Heap → Prop} (hp : plainFor y = true) (hE : Ext Z.heap h0) (hG : ∀ a ∈ ws, Z.heap.size ≤ a)
    (body : ∀ p e s m below meth c T, OwnCx p Z s m meth c y.cls y.name bytes maxL rt → OwnPos p l e rm s m as below meth c Z ws h0 T h0 0 0 → OwnDone p e below (OwnEnds s Z ws h0 Q rm.cells rm.slots) (T.setTop (entryFrame m as maxL))) :
    OwnMeets l y bytes maxL rt rm Z ws as h0 Q := by
  intro wz
  refine MetFree.of_bodySF hp hisR ?_
  intro p e s m args below meth c s₁ Bd hml hP hK
  obtain ⟨rfl, hZ, hh⟩ := hP
  exact body p e s m below meth c s₁ ⟨Bd.exec, hZ, findClass_of_methodNamed Bd.named, (name_of_methodNamed Bd.named Bd.method).1, Bd.bytes, hml, Bd.returns, Bd.notSynchronized⟩ ⟨_, Stand.of_body Bd, by rw [← hh, Bd.state]; rfl, hh, fun _ q => (nomatch q), hE, hG⟩

/-! the returns -/
theorem own_retN {Q : Option Value → Heap → Prop} {k n : Nat} {t : FieldType} {z z' : Int32} (C : OwnCx p Z s m meth c own nm bytes maxL (some t)) (P : OwnPos p l e R s m args below meth c Z ws h0 T h cells slots)
    (ht : t = .boolean ∨ t = .byte ∨ t = .char ∨ t = .short) (hz : nar t z = z') (hd : decode bytes pc = .ok (.ireturn, 1)) (hk : cells ≤ k) (hn : slots ≤ n) (hQ : Q (some (.int z')) h) :
    OwnDone p e below (OwnEnds s Z ws h0 Q k n) (T.setTop (mkF m pc Ls (.int z :: rest))) := by
  have kp := P.keep
  obtain ⟨hx, hZ, hown, hnm, hby, hml, hret, hlk⟩ := C
  obtain ⟨locs, X, eT, e0, N, E0, G0⟩ := P
  subst eT
  subst hz
  obtain ⟨fs, hr, hrun, hended, hW, hsame⟩ := X.leave (v := some (.int (nar t z))) (fun h => by rw [hret] at h; cases h) hlk
  exact ⟨_, _, Jvm.RoadKit.retN X hx hret ht (hb hby hd) hr, hrun, hended, _, _, rfl, ⟨hQ, kp, N⟩, ⟨_, rfl⟩, hW, hsame.mono hk hn⟩

theorem own_retI {Q : Option Value → Heap → Prop} {k n : Nat} {z : Int32} (C : OwnCx p Z s m meth c own nm bytes maxL (some .int)) (P : OwnPos p l e R s m args below meth c Z ws h0 T h cells slots)
    (hd : decode bytes pc = .ok (.ireturn, 1)) (hk : cells ≤ k) (hn : slots ≤ n) (hQ : Q (some (.int z)) h) :
    OwnDone p e below (OwnEnds s Z ws h0 Q k n) (T.setTop (mkF m pc Ls (.int z :: rest))) := by
  have kp := P.keep
  obtain ⟨hx, hZ, hown, hnm, hby, hml, hret, hlk⟩ := C
  obtain ⟨locs, X, eT, e0, N, E0, G0⟩ := P
  subst eT
  obtain ⟨fs, hr, hrun, hended, hW, hsame⟩ := X.leave (v := some (.int z)) (fun h => by rw [hret] at h; cases h) hlk
  exact ⟨_, _, retOut X hx hret rfl (Or.inl ⟨rfl, Or.inl rfl, z, rfl⟩) (hb hby hd) hr, hrun, hended, _, _, rfl, ⟨hQ, kp, N⟩, ⟨_, rfl⟩, hW, hsame.mono hk hn⟩

theorem own_retJ {Q : Option Value → Heap → Prop} {k n : Nat} {z : Int64} (C : OwnCx p Z s m meth c own nm bytes maxL (some .long)) (P : OwnPos p l e R s m args below meth c Z ws h0 T h cells slots)
    (hd : decode bytes pc = .ok (.lreturn, 1)) (hk : cells ≤ k) (hn : slots ≤ n) (hQ : Q (some (.long z)) h) :
    OwnDone p e below (OwnEnds s Z ws h0 Q k n) (T.setTop (mkF m pc Ls (.long z :: rest))) := by
  have kp := P.keep
  obtain ⟨hx, hZ, hown, hnm, hby, hml, hret, hlk⟩ := C
  obtain ⟨locs, X, eT, e0, N, E0, G0⟩ := P
  subst eT
  obtain ⟨fs, hr, hrun, hended, hW, hsame⟩ := X.leave (v := some (.long z)) (fun h => by rw [hret] at h; cases h) hlk
  exact ⟨_, _, retOut X hx hret rfl (Or.inr (Or.inl ⟨rfl, rfl, z, rfl⟩)) (hb hby hd) hr, hrun, hended, _, _, rfl, ⟨hQ, kp, N⟩, ⟨_, rfl⟩, hW, hsame.mono hk hn⟩

theorem own_retA {Q : Option Value → Heap → Prop} {k n : Nat} {w : Value} {t : FieldType} (C : OwnCx p Z s m meth c own nm bytes maxL (some t)) (P : OwnPos p l e R s m args below meth c Z ws h0 T h cells slots)
    (ht : t.isReference = true) (hw : w.isRef = true) (hd : decode bytes pc = .ok (.areturn, 1)) (hk : cells ≤ k) (hn : slots ≤ n) (hQ : Q (some w) h) :
    OwnDone p e below (OwnEnds s Z ws h0 Q k n) (T.setTop (mkF m pc Ls (w :: rest))) := by
  have kp := P.keep
  obtain ⟨hx, hZ, hown, hnm, hby, hml, hret, hlk⟩ := C
  obtain ⟨locs, X, eT, e0, N, E0, G0⟩ := P
  subst eT
  obtain ⟨fs, hr, hrun, hended, hW, hsame⟩ := X.leave (v := some w) (fun h => by rw [hret] at h; cases h) hlk
  have hnr : narrow t w = w := by cases t <;> first | (cases ht; done) | rfl
  exact ⟨_, _, retOut X hx hret hnr (Or.inr (Or.inr (Or.inr (Or.inr ⟨rfl, ht, hw⟩)))) (hb hby hd) hr, hrun, hended, _, _, rfl, ⟨hQ, kp, N⟩, ⟨_, rfl⟩, hW, hsame.mono hk hn⟩

theorem own_retV {Q : Option Value → Heap → Prop} {k n : Nat}  (C : OwnCx p Z s m meth c own nm bytes maxL none) (P : OwnPos p l e R s m args below meth c Z ws h0 T h cells slots)
    (hd : decode bytes pc = .ok (.return_, 1)) (hk : cells ≤ k) (hn : slots ≤ n) (hQ : Q (none) h) :
    OwnDone p e below (OwnEnds s Z ws h0 Q k n) (T.setTop (mkF m pc Ls [])) := by
  have kp := P.keep
  obtain ⟨hx, hZ, hown, hnm, hby, hml, hret, hlk⟩ := C
  obtain ⟨locs, X, eT, e0, N, E0, G0⟩ := P
  subst eT
  obtain ⟨fs, hr, hrun, hended, hW, hsame⟩ := X.leave (v := none) (fun _ => rfl) hlk
  exact ⟨_, _, X.returnOut hx hret (hb hby hd) hr, hrun, hended, _, _, rfl, ⟨hQ, kp, N⟩, ⟨_, rfl⟩, hW, hsame.mono hk hn⟩

/-! single steps that ask the tables or the heap -/
theorem own_ldc {target : State} {index : Nat} {v : Int32} (C : OwnCx p Z s m meth c own nm bytes maxL rt) (P : OwnPos p l e R s m args below meth c Z ws h0 T h cells slots)
    (w : (Cond.constant own index v).before a0 Z = true) (hd : decode bytes pc = .ok (.ldc index, 2))
    (k : Steps p.tables e below (T.setTop (mkF m (pc + 2) Ls (.int v :: rest))) target) : Steps p.tables e below (T.setTop (mkF m pc Ls rest)) target := by
  obtain ⟨hx, hZ, hown, hnm, hby, hml, hret, hlk⟩ := C
  obtain ⟨locs, X, eT, e0, N, E0, G0⟩ := P
  exact X.ldcInt hx hown (mvT hZ w) (g := mkF m pc Ls rest) rfl (hb hby hd) target k
theorem own_irem {target : State} {x y : Int32} (C : OwnCx p Z s m meth c own nm bytes maxL rt) (P : OwnPos p l e R s m args below meth c Z ws h0 T h cells slots)
    (hy : y ≠ 0) (hd : decode bytes pc = .ok (.irem, 1))
    (k : Steps p.tables e below (T.setTop (mkF m (pc + 1) Ls (.int (x % y) :: rest))) target) : Steps p.tables e below (T.setTop (mkF m pc Ls (.int y :: .int x :: rest))) target := by
  obtain ⟨hx, hZ, hown, hnm, hby, hml, hret, hlk⟩ := C
  obtain ⟨locs, X, eT, e0, N, E0, G0⟩ := P
  exact iremM X hx (g := mkF m pc Ls (.int y :: .int x :: rest)) rfl (hb hby hd) rfl hy k
theorem own_getF {R0 O n d host : String} {index : Nat} {a : Addr} {v : Value} (C : OwnCx p Z s m meth c own nm bytes maxL rt) (P : OwnPos p l e R s m args below meth c Z ws h0 T h cells slots)
    (w : (Cond.fieldLink own index R0 n d).before a0 Z = true ∨ (Cond.fieldLinkNest own index R0 n d host).before a0 Z = true) (via : Via Z R0 O n d) (F : Fld Z h a O n d v) (hd : decode bytes pc = .ok (.getfield index, 3))
    (K : ∀ T', OwnPos p l e R s m args below meth c Z ws h0 T' h cells slots → OwnDone p e below W (T'.setTop (mkF m (pc + 3) Ls (v :: rest)))) : OwnDone p e below W (T.setTop (mkF m pc Ls (.ref a :: rest))) := by
  obtain ⟨hx, hZ, hown, hnm, hby, hml, hret, hlk⟩ := C
  obtain ⟨locs, X, eT, e0, N, E0, G0⟩ := P
  obtain ⟨T', X', e', st⟩ := getF X hx hZ hown w via eT F (g := mkF m pc Ls (.ref a :: rest)) rfl rfl (hb hby hd)
  exact OwnDone.go st (K T' ⟨_, X', e', e0, N, E0, G0⟩)
theorem own_getS {R0 O n d host : String} {index : Nat} {v : Value} (C : OwnCx p Z s m meth c own nm bytes maxL rt) (P : OwnPos p l e R s m args below meth c Z ws h0 T h cells slots)
    (w : (Cond.fieldLink own index R0 n d).before a0 Z = true ∨ (Cond.fieldLinkNest own index R0 n d host).before a0 Z = true) (via : Via Z R0 O n d) (F : Sta Z Z.heap O n d v) (hd : decode bytes pc = .ok (.getstatic index, 3))
    (K : ∀ T', OwnPos p l e R s m args below meth c Z ws h0 T' h cells slots → OwnDone p e below W (T'.setTop (mkF m (pc + 3) Ls (v :: rest)))) : OwnDone p e below W (T.setTop (mkF m pc Ls rest)) := by
  have F := F.ext P.old
  obtain ⟨hx, hZ, hown, hnm, hby, hml, hret, hlk⟩ := C
  obtain ⟨locs, X, eT, e0, N, E0, G0⟩ := P
  obtain ⟨T', X', e', st⟩ := getS2 X hx hZ hown w via eT F (g := mkF m pc Ls rest) rfl (hb hby hd)
  exact OwnDone.go st (K T' ⟨_, X', e', e0, N, E0, G0⟩)
/-! calls, by the callee's contract -/
theorem own_callS {y : MethodName} {yb : ByteArray} {ym : Nat} {yr : Option FieldType} {rm : Room} {Q : Option Value → Heap → Prop} {index wd : Nat} {st : List Value} {as : List Value}
    (C : OwnCx p Z s m meth c own nm bytes maxL rt) (P : OwnPos p l e R s m args below meth c Z ws h0 T h cells slots)
    (w1 : (Cond.methodLink own index y).before a0 Z = true) (w2 : (Cond.static y).before a0 Z = true) (w3 : (Cond.initialized y.cls).before a0 Z = true) (w4 : (Cond.code y yb ym yr).before a0 Z = true)
    (hy : y.cls ≠ "java/lang/invoke/MethodHandle" ∧ y.cls ≠ "java/lang/invoke/VarHandle") (M : OwnMeets l y yb ym yr rm Z ws' as.toArray h Q) {ps : List FieldType} {pr : Option FieldType} (hpd : parseMethodDescriptor y.desc = some ⟨ps, pr⟩) (hlen : as.length = ps.length)
    (hst : st = as.reverse ++ rest) (hwd : (rest.map fun v => v.category).sum = wd) (hsz : Ls.size = maxL) (hd : decode bytes pc = .ok (.invokestatic index, 3))
    (hsub : ∀ a ∈ ws', a ∈ ws ∨ h0.size ≤ a) (hf : rm.frames + 1 ≤ R.frames) (hl : wd + (ym + 11) + rm.locals ≤ R.locals) (hc : cells + rm.cells ≤ R.cells) (hs : slots + rm.slots ≤ R.slots)
    (K : ∀ T' h' v, OwnPos p l e R s m args below meth c Z ws h0 T' h' (cells + rm.cells) (slots + rm.slots) → Keep h h' ws' → Q v h' → OwnDone p e below W (T'.setTop (mkF m (pc + 3) Ls (v.toList ++ rest)))) : OwnDone p e below W (T.setTop (mkF m pc Ls st)) := by
  have kp := P.keep
  obtain ⟨hx, hZ, hown, hnm, hby, hml, hret, hlk⟩ := C
  obtain ⟨locs, X, eT, e0, N, E0, G0⟩ := P
  obtain ⟨v, _, ⟨T', L', k', n'⟩, -, X', ⟨Lc, ⟨hQ, hK, NQ⟩, l1, l2, l3⟩, stp⟩ := Jvm.LawKit.callS X hx (y := y) hown (mvT hZ w1) (mvT hZ w2) (mvT hZ w3) (mvT hZ w4) hy (backOf (W := wd) (Q := fun v h2 L => Q v h2 ∧ Keep h h2 ws' ∧ ∀ y ∈ L, y.base ∈ ws' ∨ h.size ≤ y.base) (M []) hZ w4 w3 hf hl) (g := mkF m pc Ls st) rfl (by rw [hml]; exact hsz) (argsL := as) (rest := rest) (lenOf hpd hlen) hst (by show 2 * 0 + _ ≤ _; omega) (hb hby hd) (fun _ _ => ⟨rfl, eT, hc, hs⟩)
  dsimp only [Pt.U, Pt.locs, Pt.cells, Pt.slots] at X' l1 l2 l3 stp hQ hK
  subst l1 l2 l3
  have NN : ∀ y ∈ locs ++ Lc, y.base ∈ ws ∨ h0.size ≤ y.base := fun y hy => by
    rcases List.mem_append.mp hy with q | q
    · exact N y q
    · rcases NQ y q with q | q
      · exact hsub _ q
      · exact Or.inr (Nat.le_trans kp.1 q)
  exact OwnDone.go stp (K T' _ v ⟨_, X', rfl, e0, NN, E0, G0⟩ hK hQ)

theorem own_callV {y z : MethodName} {yb : ByteArray} {ym : Nat} {yr : Option FieldType} {rm : Room} {Q : Option Value → Heap → Prop} {index wd : Nat} {st : List Value} {as : List Value} {b : Addr} {CC : String}
    (C : OwnCx p Z s m meth c own nm bytes maxL rt) (P : OwnPos p l e R s m args below meth c Z ws h0 T h cells slots) (E : Exa Z h b CC)
    (w1 : (Cond.methodLink own index y).before a0 Z = true) (w2 : (Cond.declares y).before a0 Z = true) (nf : (Cond.selects y.cls y y).before a0 Z = true) (w5 : (Cond.selects CC y z).before a0 Z = true) (w6 : (Cond.instanceMethod z).before a0 Z = true) (w3 : (Cond.initialized z.cls).before a0 Z = true) (w4 : (Cond.code z yb ym yr).before a0 Z = true)
    (hy : y.cls ≠ "java/lang/invoke/MethodHandle" ∧ y.cls ≠ "java/lang/invoke/VarHandle") (M : OwnMeets l z yb ym yr rm Z ws' (.ref b :: as).toArray h Q) {ps : List FieldType} {pr : Option FieldType} (hpd : parseMethodDescriptor y.desc = some ⟨ps, pr⟩) (hlen : as.length = ps.length)
    (hst : st = as.reverse ++ .ref b :: rest) (hwd : (rest.map fun v => v.category).sum = wd) (hsz : Ls.size = maxL) (hd : decode bytes pc = .ok (.invokevirtual index, 3))
    (hsub : ∀ a ∈ ws', a ∈ ws ∨ h0.size ≤ a) (hf : rm.frames + 1 ≤ R.frames) (hl : wd + (ym + 11) + rm.locals ≤ R.locals) (hc : cells + rm.cells ≤ R.cells) (hs : slots + rm.slots ≤ R.slots)
    (K : ∀ T' h' v, OwnPos p l e R s m args below meth c Z ws h0 T' h' (cells + rm.cells) (slots + rm.slots) → Keep h h' ws' → Q v h' → OwnDone p e below W (T'.setTop (mkF m (pc + 3) Ls (v.toList ++ rest)))) : OwnDone p e below W (T.setTop (mkF m pc Ls st)) := by
  have kp := P.keep
  obtain ⟨hx, hZ, hown, hnm, hby, hml, hret, hlk⟩ := C
  obtain ⟨locs, X, eT, e0, N, E0, G0⟩ := P
  obtain ⟨cq, kq, qa, qb, qc⟩ := isOf hZ eT E
  obtain ⟨v, _, ⟨T', L', k', n'⟩, -, X', ⟨Lc, ⟨hQ, hK, NQ⟩, l1, l2, l3⟩, stp⟩ := X.virtualBack hx (y := y) (z := z) hown (mvT hZ w1) (mvT hZ w2) (notFace_of_selects (args := #[]) (mvT hZ nf)) (mvT hZ w5) (mvT hZ w6) hy (backOf (W := wd) (Q := fun v h2 L => Q v h2 ∧ Keep h h2 ws' ∧ ∀ y ∈ L, y.base ∈ ws' ∨ h.size ≤ y.base) (M []) hZ w4 w3 hf hl) qa qc (g := mkF m pc Ls st) rfl (by rw [hml]; exact hsz) (Steps.refl _) (argsL := as) (rest := rest) (lenOf hpd hlen) hst (by show 2 * 0 + _ ≤ _; omega) (hb hby hd) (fun _ _ => ⟨rfl, eT, hc, hs⟩)
  dsimp only [Pt.U, Pt.locs, Pt.cells, Pt.slots] at X' l1 l2 l3 stp hQ hK
  subst l1 l2 l3
  have NN : ∀ y ∈ locs ++ Lc, y.base ∈ ws ∨ h0.size ≤ y.base := fun y hy => by
    rcases List.mem_append.mp hy with q | q
    · exact N y q
    · rcases NQ y q with q | q
      · exact hsub _ q
      · exact Or.inr (Nat.le_trans kp.1 q)
  exact OwnDone.go (fun _ k => stp.trans k) (K T' _ v ⟨_, X', rfl, e0, NN, E0, G0⟩ hK hQ)

theorem own_callI {y : MethodName} {yb : ByteArray} {ym : Nat} {rm : Room} {Q : Option Value → Heap → Prop} {index wd : Nat} {st : List Value} {as : List Value} {b : Addr}
    (C : OwnCx p Z s m meth c own nm bytes maxL rt) (P : OwnPos p l e R s m args below meth c Z ws h0 T h cells slots) (hin : y.name = "<init>")
    (w1 : (Cond.methodLink own index y).before a0 Z = true) (w2 : (Cond.instanceMethod y).before a0 Z = true) (w3 : (Cond.initialized y.cls).before a0 Z = true) (w4 : (Cond.code y yb ym none).before a0 Z = true)
    (hy : y.cls ≠ "java/lang/invoke/MethodHandle" ∧ y.cls ≠ "java/lang/invoke/VarHandle") (M : OwnMeets l y yb ym none rm Z ws' (.ref b :: as).toArray h Q) {ps : List FieldType} {pr : Option FieldType} (hpd : parseMethodDescriptor y.desc = some ⟨ps, pr⟩) (hlen : as.length = ps.length)
    (hst : st = as.reverse ++ .ref b :: rest) (hwd : (rest.map fun v => v.category).sum = wd) (hsz : Ls.size = maxL) (hd : decode bytes pc = .ok (.invokespecial index, 3))
    (hsub : ∀ a ∈ ws', a ∈ ws ∨ h0.size ≤ a) (hf : rm.frames + 1 ≤ R.frames) (hl : wd + (ym + 11) + rm.locals ≤ R.locals) (hc : cells + rm.cells ≤ R.cells) (hs : slots + rm.slots ≤ R.slots)
    (K : ∀ T' h' v, OwnPos p l e R s m args below meth c Z ws h0 T' h' (cells + rm.cells) (slots + rm.slots) → Keep h h' ws' → Q v h' → OwnDone p e below W (T'.setTop (mkF m (pc + 3) Ls (v.toList ++ rest)))) : OwnDone p e below W (T.setTop (mkF m pc Ls st)) := by
  have kp := P.keep
  obtain ⟨hx, hZ, hown, hnm, hby, hml, hret, hlk⟩ := C
  obtain ⟨locs, X, eT, e0, N, E0, G0⟩ := P
  obtain ⟨v, _, ⟨T', L', k', n'⟩, -, X', ⟨Lc, ⟨hQ, hK, NQ⟩, l1, l2, l3⟩, stp⟩ := X.specialBack hx (y := y) hin hown (mvT hZ w1) (mvT hZ w2) (mvT hZ w4) hy (backOf (W := wd) (Q := fun v h2 L => Q v h2 ∧ Keep h h2 ws' ∧ ∀ y ∈ L, y.base ∈ ws' ∨ h.size ≤ y.base) (M []) hZ w4 w3 hf hl) (g := mkF m pc Ls st) rfl (by rw [hml]; exact hsz) (Steps.refl _) (a := b) (argsL := as) (rest := rest) (lenOf hpd hlen) hst (by show 2 * 0 + _ ≤ _; omega) (hb hby hd) (fun _ _ => ⟨rfl, eT, hc, hs⟩)
  dsimp only [Pt.U, Pt.locs, Pt.cells, Pt.slots] at X' l1 l2 l3 stp hQ hK
  subst l1 l2 l3
  have NN : ∀ y ∈ locs ++ Lc, y.base ∈ ws ∨ h0.size ≤ y.base := fun y hy => by
    rcases List.mem_append.mp hy with q | q
    · exact N y q
    · rcases NQ y q with q | q
      · exact hsub _ q
      · exact Or.inr (Nat.le_trans kp.1 q)
  exact OwnDone.go (fun _ k => stp.trans k) (K T' _ v ⟨_, X', rfl, e0, NN, E0, G0⟩ hK hQ)

theorem own_callP {y : MethodName} {yb : ByteArray} {ym : Nat} {yr : Option FieldType} {rm : Room} {Q : Option Value → Heap → Prop} {index wd : Nat} {st : List Value} {as : List Value} {b : Addr} {CC : String}
    (C : OwnCx p Z s m meth c own nm bytes maxL rt) (P : OwnPos p l e R s m args below meth c Z ws h0 T h cells slots) (E : Exa Z h b CC)
    (w1 : (Cond.methodLink own index y).before a0 Z = true) (w2 : (Cond.instanceMethod y).before a0 Z = true) {nI : Nat} (wi : (Cond.instantiable y.cls nI).before a0 Z = true) (w6 : (Cond.privateMethod y).before a0 Z = true) (w3 : (Cond.initialized y.cls).before a0 Z = true) (w4 : (Cond.code y yb ym yr).before a0 Z = true)
    (hy : y.cls ≠ "java/lang/invoke/MethodHandle" ∧ y.cls ≠ "java/lang/invoke/VarHandle") (M : OwnMeets l y yb ym yr rm Z ws' (.ref b :: as).toArray h Q) {ps : List FieldType} {pr : Option FieldType} (hpd : parseMethodDescriptor y.desc = some ⟨ps, pr⟩) (hlen : as.length = ps.length)
    (hst : st = as.reverse ++ .ref b :: rest) (hwd : (rest.map fun v => v.category).sum = wd) (hsz : Ls.size = maxL) (hd : decode bytes pc = .ok (.invokevirtual index, 3))
    (hsub : ∀ a ∈ ws', a ∈ ws ∨ h0.size ≤ a) (hf : rm.frames + 1 ≤ R.frames) (hl : wd + (ym + 11) + rm.locals ≤ R.locals) (hc : cells + rm.cells ≤ R.cells) (hs : slots + rm.slots ≤ R.slots)
    (K : ∀ T' h' v, OwnPos p l e R s m args below meth c Z ws h0 T' h' (cells + rm.cells) (slots + rm.slots) → Keep h h' ws' → Q v h' → OwnDone p e below W (T'.setTop (mkF m (pc + 3) Ls (v.toList ++ rest)))) : OwnDone p e below W (T.setTop (mkF m pc Ls st)) := by
  have kp := P.keep
  obtain ⟨hx, hZ, hown, hnm, hby, hml, hret, hlk⟩ := C
  obtain ⟨locs, X, eT, e0, N, E0, G0⟩ := P
  obtain ⟨cq, qa, qb⟩ := E.cell
  obtain ⟨ci, ki, i1, i2, i3, i4, -⟩ := Cond.instantiable_spec (mvT (args := args) hZ wi)
  have hni : ki.isInterface = false := by
    simp only [Bool.or_eq_false_iff] at i4; exact i4.1
  obtain ⟨v, _, ⟨T', L', k', n'⟩, -, X', ⟨Lc, ⟨hQ, hK, NQ⟩, l1, l2, l3⟩, stp⟩ := X.privateBack hx (y := y) hown (mvT hZ w1) (mvT hZ w2) (selects_self_of_private i1 i2 hni (Cond.privateMethod_at (mvP hZ w6 (args := #[]))) (mvT hZ w2) hy) (Cond.privateMethod_at (mvP hZ w6 (args := #[]))) (mvT hZ w4) hy (backOf (W := wd) (Q := fun v h2 L => Q v h2 ∧ Keep h h2 ws' ∧ ∀ y ∈ L, y.base ∈ ws' ∨ h.size ≤ y.base) (M []) hZ w4 w3 hf hl) (g := mkF m pc Ls st) rfl (by rw [hml]; exact hsz) (Steps.refl _) (a := b) (by rw [eT]; exact qa) qb (argsL := as) (rest := rest) (lenOf hpd hlen) hst (by show 2 * 0 + _ ≤ _; omega) (hb hby hd) (fun _ _ => ⟨rfl, eT, hc, hs⟩)
  dsimp only [Pt.U, Pt.locs, Pt.cells, Pt.slots] at X' l1 l2 l3 stp hQ hK
  subst l1 l2 l3
  have NN : ∀ y ∈ locs ++ Lc, y.base ∈ ws ∨ h0.size ≤ y.base := fun y hy => by
    rcases List.mem_append.mp hy with q | q
    · exact N y q
    · rcases NQ y q with q | q
      · exact hsub _ q
      · exact Or.inr (Nat.le_trans kp.1 q)
  exact OwnDone.go (fun _ k => stp.trans k) (K T' _ v ⟨_, X', rfl, e0, NN, E0, G0⟩ hK hQ)

theorem own_initO {index wd : Nat} {a : Addr} (C : OwnCx p Z s m meth c own nm bytes maxL rt) (P : OwnPos p l e R s m args below meth c Z ws h0 T h cells slots)
    (w1 : (Cond.methodLink own index Lib.objectInit).before a0 Z = true) (w2 : (Cond.instanceMethod Lib.objectInit).before a0 Z = true) (w3 : (Cond.code Lib.objectInit ⟨#[0xb1]⟩ 1 none).before a0 Z = true)
    (hwd : (rest.map fun v => v.category).sum = wd) (hsz : Ls.size = maxL) (hd : decode bytes pc = .ok (.invokespecial index, 3)) (hf : 1 ≤ R.frames) (hl : wd + 12 ≤ R.locals)
    (K : ∀ T', OwnPos p l e R s m args below meth c Z ws h0 T' h cells slots → OwnDone p e below W (T'.setTop (mkF m (pc + 3) Ls rest))) : OwnDone p e below W (T.setTop (mkF m pc Ls (.ref a :: rest))) := by
  obtain ⟨hx, hZ, hown, hnm, hby, hml, hret, hlk⟩ := C
  obtain ⟨locs, X, eT, e0, N, E0, G0⟩ := P
  obtain ⟨T', X', e', st⟩ := initO X hx hZ hown w1 w2 w3 eT (g := mkF m pc Ls (.ref a :: rest)) rfl (by rw [hml]; exact hsz) rfl (hb hby hd) hf (W := wd) (by show 2 * 0 + _ ≤ _; omega) hl
  exact OwnDone.go st (K T' ⟨_, X', e', e0, N, E0, G0⟩)
theorem own_w0 : (([] : List Value).map fun v => v.category).sum = 0 := rfl
theorem own_w1 {v : Value} {L : List Value} {c n k : Nat} (h : v.category = c) (r : (L.map fun v => v.category).sum = n) (e : c + n = k) : ((v :: L).map fun v => v.category).sum = k := by
  rw [List.map_cons, List.sum_cons, r, h, e]
theorem own_neL {x y : Addr} (h : @LT.lt Nat _ x y ∨ @LT.lt Nat _ y x) : x ≠ y := fun q => by subst q; rcases h with h | h <;> exact absurd h (Nat.lt_irrefl _)
theorem own_nb {z : Int32} (h : z = 0 ∨ z = 1) : narrow .boolean (.int z) = .int z := by rcases h with rfl | rfl <;> rfl
theorem own_fb {z : Int32} (h : z = 0 ∨ z = 1) : fits .boolean (.int z) = true := by rcases h with rfl | rfl <;> rfl
theorem own_nref {t : FieldType} {v : Value} (ht : t.isReference = true) : narrow t v = v := by cases t <;> first | (cases ht; done) | rfl
theorem own_fref {t : FieldType} {v : Value} (ht : t.isReference = true) (hv : v.isRef = true) : fits t v = true := by
  cases t <;> first | (cases ht; done) | (cases v <;> first | (cases hv; done) | rfl)
/-! objects: all their fields at once -/
def OwnObj (Z : State) (h : Heap) (a : Addr) (C : String) (lay : List (String × String × String)) (vs : List Value) : Prop :=
  Exa Z h a C ∧ ∀ (i : Nat) (O n d : String) (v : Value), lay[i]? = some (O, n, d) → vs[i]? = some v → Fld Z h a O n d v
/-- the sheet lays these fields; their names are unlike -/
def OwnLaid (Z : State) (a0 : Array Value) (C : String) (lay : List (String × String × String)) : Prop :=
  (∀ q ∈ lay, Laid Z a0 C q.1 q.2.1 q.2.2) ∧ (lay.map fun q => q.2.1).Nodup ∧ ∀ q ∈ lay, ∃ t, parseFieldDescriptor q.2.2 = some t
section Obj
variable {a b : Addr} {CC : String} {lay : List (String × String × String)} {vs vs' : List Value}
theorem OwnObj.lt (F : OwnObj Z h a CC lay vs) : a < h.size := F.1.lt
theorem OwnObj.keep (F : OwnObj Z h a CC lay vs) (K : Keep h h' ws) (q : a ∉ ws) : OwnObj Z h' a CC lay vs :=
  ⟨F.1.keep K, fun i O n d v h1 h2 => (F.2 i O n d v h1 h2).keep K q⟩
theorem own_names (nd : (lay.map fun q => q.2.1).Nodup) {i j : Nat} {O n d O' n' d' : String} (hi : lay[i]? = some (O, n, d)) (hj : lay[j]? = some (O', n', d')) (ne : i ≠ j) : n ≠ n' := fun e => by
  have hl : i < (lay.map fun q => q.2.1).length := by simpa using (List.getElem?_eq_some_iff.mp hi).1
  refine ne ((List.getElem?_inj hl nd).mp ?_)
  simp [hi, hj, e]
theorem OwnObj.put {O n d : String} {v : Value} (F : OwnObj Z h a CC lay vs) (LL : OwnLaid Z a0 CC lay) (W : Wr h h' a (Jvm.RoadKit.slotOf Z O n d) v) (i : Nat) (hi : lay[i]? = some (O, n, d)) (hv : vs.set i v = vs') : OwnObj Z h' a CC lay vs' := by
  subst hv
  refine ⟨F.1.wr W, fun j O' n' d' v' h1 h2 => ?_⟩
  by_cases q : i = j
  · subst q
    cases hi.symm.trans h1
    have hl : i < vs.length := by
      have := (List.getElem?_eq_some_iff.mp h2).1
      simpa using this
    rw [List.getElem?_set_self hl] at h2
    cases h2
    exact (F.2 i _ _ _ _ h1 (List.getElem?_eq_getElem hl)).same W
  · rw [List.getElem?_set_ne q] at h2
    obtain ⟨t, ht⟩ := LL.2.2 (O, n, d) (List.mem_of_getElem? hi)
    obtain ⟨t', ht'⟩ := LL.2.2 (O', n', d') (List.mem_of_getElem? h1)
    have L1 : Laid Z a0 CC O' n' d' := LL.1 (O', n', d') (List.mem_of_getElem? h1)
    have L2 : Laid Z a0 CC O n d := LL.1 (O, n, d) (List.mem_of_getElem? hi)
    have t1 : parseFieldDescriptor d' = some t' := ht'
    have t2 : parseFieldDescriptor d = some t := ht
    have nn : n' ≠ n := own_names LL.2.1 h1 hi (Ne.symm q)
    have sn := Jvm.RoadKit.slot_ne L1 L2 nn t1 t2
    exact (F.2 j O' n' d' v' h1 h2).other W (Or.inr sn)
theorem own_new {n index : Nat} (C : OwnCx p Z s m meth c own nm bytes maxL rt) (P : OwnPos p l e R s m args below meth c Z ws h0 T h cells slots)
    (w : (Cond.classLink own index CC).before a0 Z = true) (wi : (Cond.instantiable CC n).before a0 Z = true) (wz : (Cond.initialized CC).before a0 Z = true) (LL : OwnLaid Z a0 CC lay)
    (hv : lay.map (fun q => (parseFieldDescriptor q.2.2).map defaultValue) = vs.map some) (hd : decode bytes pc = .ok (.new index, 3)) (hc : cells + 1 ≤ R.cells) (hl : slots + n ≤ R.slots)
    (K : ∀ T' h' a, a = h.size → a < h'.size → OwnPos p l e R s m args below meth c Z ws h0 T' h' (cells + 1) (slots + n) → Keep h h' [] → OwnObj Z h' a CC lay vs → OwnDone p e below W (T'.setTop (mkF m (pc + 3) Ls (.ref a :: rest)))) : OwnDone p e below W (T.setTop (mkF m pc Ls rest)) := by
  have kp := P.keep
  obtain ⟨hx, hZ, hown, hnm, hby, hml, hret, hlk⟩ := C
  obtain ⟨locs, X, eT, e0, N, E0, G0⟩ := P
  obtain ⟨T', h', X', e', E', A', D', -, st⟩ := newO X hx hZ hown w wi wz eT (g := mkF m pc Ls rest) rfl (hb hby hd) hc hl
  refine OwnDone.go st (K T' h' h.size rfl A'.lt ⟨_, X', e', e0, N, E0, G0⟩ ((Keep.refl h []).ext E') ⟨A', fun i O n d v h1 h2 => ?_⟩)
  have q : (lay.map (fun q => (parseFieldDescriptor q.2.2).map defaultValue))[i]? = (vs.map some)[i]? := by rw [hv]
  simp only [List.getElem?_map, h1, h2, Option.map_some] at q
  obtain ⟨t, ht⟩ := LL.2.2 _ (List.mem_of_getElem? h1)
  rw [ht] at q
  obtain rfl : defaultValue t = v := by simpa using q
  exact D' (LL.1 _ (List.mem_of_getElem? h1)) ht
theorem own_putO {R0 O n d : String} {index kk : Nat} {ty : FieldType} {v v' : Value} (C : OwnCx p Z s m meth c own nm bytes maxL rt) (P : OwnPos p l e R s m args below meth c Z ws h0 T h cells slots)
    (w : (Cond.fieldLink own index R0 n d).before a0 Z = true) (via : Via Z R0 O n d) (F : OwnObj Z h a CC lay vs) (LL : OwnLaid Z a0 CC lay) (i : Nat) (hi : lay[i]? = some (O, n, d)) {old : Value} (ho : vs[i]? = some old)
    (L : (Cond.lays CC O n d).before a0 Z = true ∨ ((Cond.laysFinal CC O n d).before a0 Z = true ∧ own = O ∧ nm = "<init>")) (wi : (Cond.instantiable CC kk).before a0 Z = true)
    (hty : parseFieldDescriptor d = some ty) (hn : narrow ty v = v') (hf : fits ty v' = true) (hge : a ∈ ws ∨ h0.size ≤ a) (hd : decode bytes pc = .ok (.putfield index, 3)) (hvs : vs.set i v' = vs')
    (K : ∀ T' h', OwnPos p l e R s m args below meth c Z ws h0 T' h' cells slots → Keep h h' [a] → OwnObj Z h' a CC lay vs' → OwnDone p e below W (T'.setTop (mkF m (pc + 3) Ls rest))) : OwnDone p e below W (T.setTop (mkF m pc Ls (v :: .ref a :: rest))) := by
  obtain ⟨hx, hZ, hown, hnm, hby, hml, hret, hlk⟩ := C
  obtain ⟨locs, X, eT, e0, N, E0, G0⟩ := P
  subst hnm
  obtain ⟨T', h', X', e', W', st⟩ := putFN X hx hZ hown w via eT (F.2 i _ _ _ _ hi ho) F.1 L wi hty hn hf (g := mkF m pc Ls (v :: .ref a :: rest)) rfl rfl (hb hby hd)
  have NN : ∀ y ∈ locs ++ [⟨a, Jvm.RoadKit.slotOf Z O n d⟩], y.base ∈ ws ∨ h0.size ≤ y.base := fun y hy => by
    rcases List.mem_append.mp hy with q | q
    · exact N y q
    · cases List.mem_singleton.mp q; exact hge
  exact OwnDone.go st (K T' h' ⟨_, X', e', e0, NN, E0, G0⟩ (Keep.of_wr W') (F.put LL W' i hi hvs))
end Obj
/-! arrays: all their elements at once -/
def OwnAry (Z : State) (h : Heap) (a : Addr) (k : ClassId) (ty : FieldType) (vs : List Value) : Prop := ∃ c : Cell, Arr Z h a c ty ∧ c.cls = k ∧ c.slots.toList = vs
section Ary
variable {a b : Addr} {k : ClassId} {ty : FieldType} {vs vs' : List Value} {j : Int32}
theorem OwnAry.lt (F : OwnAry Z h a k ty vs) : a < h.size := by obtain ⟨c, A, -⟩ := F; exact A.lt
theorem OwnAry.keep (F : OwnAry Z h a k ty vs) (K : Keep h h' ws) (q : a ∉ ws) : OwnAry Z h' a k ty vs := by
  obtain ⟨c, A, r⟩ := F; exact ⟨c, ⟨K.2.1 a c A.1 q, A.2⟩, r⟩
theorem OwnAry.ext (F : OwnAry Z h a k ty vs) (E : Ext h h') : OwnAry Z h' a k ty vs := by obtain ⟨c, A, r⟩ := F; exact ⟨c, A.ext E, r⟩
theorem OwnAry.set {i : Nat} {v : Value} (F : OwnAry Z h a k ty vs) (W : Wr h h' a i v) : OwnAry Z h' a k ty (vs.set i v) := by
  obtain ⟨c, A, r1, r2⟩ := F
  exact ⟨_, A.same W, r1, by rw [← r2]; simp [Cell.setSlot]⟩
theorem own_in {c : Cell} (r : c.slots.toList = vs) (h1 : ¬ j < 0) (h2 : j.toNatClampNeg < vs.length) : ¬ (j < 0 ∨ c.slots.size ≤ j.toNatClampNeg) := by
  have e : c.slots.size = vs.length := by rw [← r]; simp
  rw [e]; rintro (q | q)
  · exact h1 q
  · omega
theorem own_at {c : Cell} {i : Nat} (r : c.slots.toList = vs) : c.slots[i]? = vs[i]? := by rw [← r]; simp
theorem own_cls {cc : Cell} {ad : String} (A : Arr Z h a cc ty) (E : Exa Z h a ad) : Z.vm.findClass ad = some cc.cls := by
  obtain ⟨c1, k1, h1, h2, -⟩ := E
  cases A.1.symm.trans h1
  exact h2
theorem OwnAry.ins {cn : String} (F : OwnAry Z h a k ty vs) (hk : Z.vm.findClass cn = some k) : Ins Z h a cn true := by
  obtain ⟨c1, A, rfl, -⟩ := F
  exact ⟨c1, _, A.1, hk, by simp [A.plain, Vm.assignable_self]⟩
theorem OwnAry.insC {cn C' : String} (F : OwnAry Z h a k ty vs) (hk : Z.vm.findClass cn = some k) (w : (Cond.castable cn C').before a0 Z = true) : Ins Z h a C' true := by
  obtain ⟨c1, A, rfl, -⟩ := F
  obtain ⟨d1, d2, g1, g2, g3⟩ := Cond.castable_spec w
  cases hk.symm.trans g1
  exact ⟨c1, d2, A.1, g2, by simp [A.plain, g3]⟩
theorem own_insK {C' : String} {y : Addr} (I : Ins Z h y C' true) (K : Keep h h' ws) : Ins Z h' y C' true := by
  obtain ⟨c1, cT, h1, h2, h3⟩ := I
  obtain ⟨c2, k1, k2, k3, -⟩ := K.2.2 _ _ h1
  exact ⟨c2, cT, k1, h2, by rw [k2, k3]; exact h3⟩
theorem OwnAry.sto {C' : String} {y : Addr} (F : OwnAry Z h a k ty vs) (O : Ovr Z k C') (I : Ins Z h y C' true) : Sto Z h a (.ref y) := by
  obtain ⟨c1, A, q, -⟩ := F; exact Sto.ofV A q O I
theorem OwnAry.stoA {C' : String} {t : FieldType} {y : Addr} (F : OwnAry Z h a k ty vs) (O : OvrA Z k t C') (I : Ins Z h y C' true) : Sto Z h a (.ref y) := by
  obtain ⟨c1, A, q, -⟩ := F; exact Sto.ofVA A q O I
theorem own_newP {aty : ArrayType} {n : Int32} {cap : Nat} {ad : String} (C : OwnCx p Z s m meth c own nm bytes maxL rt) (P : OwnPos p l e R s m args below meth c Z ws h0 T h cells slots)
    (w : (Cond.arrayClass (newarray.typeOf aty)).before a0 Z = true) (hd : decode bytes pc = .ok (.newarray aty, 2)) (hn : ¬ n < 0) (hcap : n.toNatClampNeg ≤ cap) (hbb : cap * 8 ≤ 536870912) (hvs : List.replicate n.toNatClampNeg (defaultValue (newarray.typeOf aty)) = vs) (had : "[" ++ (newarray.typeOf aty).toString = ad) (hc : cells + 1 ≤ R.cells) (hl : slots + cap ≤ R.slots)
    (K : ∀ T' h' a k, a = h.size → a < h'.size → OwnPos p l e R s m args below meth c Z ws h0 T' h' (cells + 1) (slots + cap) → Keep h h' [] → OwnAry Z h' a k (newarray.typeOf aty) vs → Z.vm.findClass ad = some k → OwnDone p e below W (T'.setTop (mkF m (pc + 2) Ls (.ref a :: rest)))) : OwnDone p e below W (T.setTop (mkF m pc Ls (.int n :: rest))) := by
  obtain ⟨hx, hZ, hown, hnm, hby, hml, hret, hlk⟩ := C
  obtain ⟨locs, X, eT, e0, N, E0, G0⟩ := P
  obtain ⟨T', h', cA, X', e', E', A', EX, st⟩ := newPE X hx hZ w eT (g := mkF m pc Ls (.int n :: rest)) rfl (hb hby hd) rfl hn hcap hbb hc hl had
  exact OwnDone.go st (K T' h' h.size cA rfl A'.lt ⟨_, X', e', e0, N, E0, G0⟩ ((Keep.refl h []).ext E') ⟨_, A', rfl, by rw [← hvs]; simp [newA]⟩ (own_cls A' EX))
theorem own_newR {CC : String} {index : Nat} {n : Int32} {cap : Nat} {ad : String} (C : OwnCx p Z s m meth c own nm bytes maxL rt) (P : OwnPos p l e R s m args below meth c Z ws h0 T h cells slots)
    (w1 : (Cond.classLink own index CC).before a0 Z = true) (w2 : (Cond.arrayOver (.object CC)).before a0 Z = true) (hd : decode bytes pc = .ok (.anewarray index, 3)) (hn : ¬ n < 0) (hcap : n.toNatClampNeg ≤ cap) (hbb : cap * 8 ≤ 536870912) (hvs : List.replicate n.toNatClampNeg Value.null = vs) (had : "[" ++ (FieldType.object CC).toString = ad) (hc : cells + 1 ≤ R.cells) (hl : slots + cap ≤ R.slots)
    (K : ∀ T' h' a k, a = h.size → a < h'.size → OwnPos p l e R s m args below meth c Z ws h0 T' h' (cells + 1) (slots + cap) → Keep h h' [] → OwnAry Z h' a k (.object CC) vs → Z.vm.findClass ad = some k → Ovr Z k CC → OwnDone p e below W (T'.setTop (mkF m (pc + 3) Ls (.ref a :: rest)))) : OwnDone p e below W (T.setTop (mkF m pc Ls (.int n :: rest))) := by
  obtain ⟨hx, hZ, hown, hnm, hby, hml, hret, hlk⟩ := C
  obtain ⟨locs, X, eT, e0, N, E0, G0⟩ := P
  obtain ⟨T', h', cA, X', e', E', A', EX, O', st⟩ := newRE X hx hZ hown w1 w2 eT (g := mkF m pc Ls (.int n :: rest)) rfl (hb hby hd) rfl hn hcap hbb hc hl had
  exact OwnDone.go st (K T' h' h.size cA rfl A'.lt ⟨_, X', e', e0, N, E0, G0⟩ ((Keep.refl h []).ext E') ⟨_, A', rfl, by rw [← hvs]; simp [newA, defaultValue]⟩ (own_cls A' EX) O')
theorem own_newA {CC : String} {t : FieldType} {index : Nat} {n : Int32} {cap : Nat} {ad : String} (C : OwnCx p Z s m meth c own nm bytes maxL rt) (P : OwnPos p l e R s m args below meth c Z ws h0 T h cells slots)
    (hC : (FieldType.array t).toString = CC) (w1 : (Cond.classLink own index CC).before a0 Z = true) (w2 : (Cond.arrayOver (.array t)).before a0 Z = true) (hd : decode bytes pc = .ok (.anewarray index, 3)) (hn : ¬ n < 0) (hcap : n.toNatClampNeg ≤ cap) (hbb : cap * 8 ≤ 536870912) (hvs : List.replicate n.toNatClampNeg Value.null = vs) (had : "[" ++ CC = ad) (hc : cells + 1 ≤ R.cells) (hl : slots + cap ≤ R.slots)
    (K : ∀ T' h' a k, a = h.size → a < h'.size → OwnPos p l e R s m args below meth c Z ws h0 T' h' (cells + 1) (slots + cap) → Keep h h' [] → OwnAry Z h' a k (.array t) vs → Z.vm.findClass ad = some k → OvrA Z k t CC → OwnDone p e below W (T'.setTop (mkF m (pc + 3) Ls (.ref a :: rest)))) : OwnDone p e below W (T.setTop (mkF m pc Ls (.int n :: rest))) := by
  obtain ⟨hx, hZ, hown, hnm, hby, hml, hret, hlk⟩ := C
  obtain ⟨locs, X, eT, e0, N, E0, G0⟩ := P
  obtain ⟨T', h', cA, X', e', E', A', EX, O', st⟩ := newRA X hx hZ hown hC w1 w2 eT (g := mkF m pc Ls (.int n :: rest)) rfl (hb hby hd) rfl hn hcap hbb hc hl had
  exact OwnDone.go st (K T' h' h.size cA rfl A'.lt ⟨_, X', e', e0, N, E0, G0⟩ ((Keep.refl h []).ext E') ⟨_, A', rfl, by rw [← hvs]; simp [newA, defaultValue]⟩ (own_cls A' EX) O')
theorem own_iastore {x : Int32} (C : OwnCx p Z s m meth c own nm bytes maxL rt) (P : OwnPos p l e R s m args below meth c Z ws h0 T h cells slots)
    (F : OwnAry Z h a k .int vs) (h1 : ¬ j < 0) (h2 : j.toNatClampNeg < vs.length) (hge : a ∈ ws ∨ h0.size ≤ a) (hd : decode bytes pc = .ok (.iastore, 1)) (hvs : vs.set j.toNatClampNeg (.int x) = vs')
    (K : ∀ T' h', OwnPos p l e R s m args below meth c Z ws h0 T' h' cells slots → Keep h h' [a] → OwnAry Z h' a k .int vs' → OwnDone p e below W (T'.setTop (mkF m (pc + 1) Ls rest))) : OwnDone p e below W (T.setTop (mkF m pc Ls ((.int x) :: .int j :: .ref a :: rest))) := by
  obtain ⟨hx, hZ, hown, hnm, hby, hml, hret, hlk⟩ := C
  obtain ⟨locs, X, eT, e0, N, E0, G0⟩ := P
  obtain ⟨c0, A0, r1, r2⟩ := id F
  obtain ⟨T', h', X', e', W', st⟩ := stI X hx hZ eT A0 (own_in r2 h1 h2) (g := mkF m pc Ls ((.int x) :: .int j :: .ref a :: rest)) rfl rfl (hb hby hd)
  have NN : ∀ y ∈ locs ++ [⟨a, j.toNatClampNeg⟩], y.base ∈ ws ∨ h0.size ≤ y.base := fun y hy => by
    rcases List.mem_append.mp hy with q | q
    · exact N y q
    · cases List.mem_singleton.mp q; exact hge
  exact OwnDone.go st (K T' h' ⟨_, X', e', e0, NN, E0, G0⟩ (Keep.of_wr W') (hvs ▸ F.set W'))
theorem own_lastore {x : Int64} (C : OwnCx p Z s m meth c own nm bytes maxL rt) (P : OwnPos p l e R s m args below meth c Z ws h0 T h cells slots)
    (F : OwnAry Z h a k .long vs) (h1 : ¬ j < 0) (h2 : j.toNatClampNeg < vs.length) (hge : a ∈ ws ∨ h0.size ≤ a) (hd : decode bytes pc = .ok (.lastore, 1)) (hvs : vs.set j.toNatClampNeg (.long x) = vs')
    (K : ∀ T' h', OwnPos p l e R s m args below meth c Z ws h0 T' h' cells slots → Keep h h' [a] → OwnAry Z h' a k .long vs' → OwnDone p e below W (T'.setTop (mkF m (pc + 1) Ls rest))) : OwnDone p e below W (T.setTop (mkF m pc Ls ((.long x) :: .int j :: .ref a :: rest))) := by
  obtain ⟨hx, hZ, hown, hnm, hby, hml, hret, hlk⟩ := C
  obtain ⟨locs, X, eT, e0, N, E0, G0⟩ := P
  obtain ⟨c0, A0, r1, r2⟩ := id F
  obtain ⟨T', h', X', e', W', st⟩ := stJ X hx hZ eT A0 (own_in r2 h1 h2) (g := mkF m pc Ls ((.long x) :: .int j :: .ref a :: rest)) rfl rfl (hb hby hd)
  have NN : ∀ y ∈ locs ++ [⟨a, j.toNatClampNeg⟩], y.base ∈ ws ∨ h0.size ≤ y.base := fun y hy => by
    rcases List.mem_append.mp hy with q | q
    · exact N y q
    · cases List.mem_singleton.mp q; exact hge
  exact OwnDone.go st (K T' h' ⟨_, X', e', e0, NN, E0, G0⟩ (Keep.of_wr W') (hvs ▸ F.set W'))
theorem own_castore {x : Int32} (C : OwnCx p Z s m meth c own nm bytes maxL rt) (P : OwnPos p l e R s m args below meth c Z ws h0 T h cells slots)
    (F : OwnAry Z h a k .char vs) (h1 : ¬ j < 0) (h2 : j.toNatClampNeg < vs.length) (hge : a ∈ ws ∨ h0.size ≤ a) (hd : decode bytes pc = .ok (.castore, 1)) (hvs : vs.set j.toNatClampNeg (.int (nar .char x)) = vs')
    (K : ∀ T' h', OwnPos p l e R s m args below meth c Z ws h0 T' h' cells slots → Keep h h' [a] → OwnAry Z h' a k .char vs' → OwnDone p e below W (T'.setTop (mkF m (pc + 1) Ls rest))) : OwnDone p e below W (T.setTop (mkF m pc Ls (.int x :: .int j :: .ref a :: rest))) := by
  obtain ⟨hx, hZ, hown, hnm, hby, hml, hret, hlk⟩ := C
  obtain ⟨locs, X, eT, e0, N, E0, G0⟩ := P
  obtain ⟨c0, A0, r1, r2⟩ := id F
  obtain ⟨T', h', X', e', W', st⟩ := stC X hx hZ eT A0 (own_in r2 h1 h2) (g := mkF m pc Ls (.int x :: .int j :: .ref a :: rest)) rfl rfl (hb hby hd)
  have NN : ∀ y ∈ locs ++ [⟨a, j.toNatClampNeg⟩], y.base ∈ ws ∨ h0.size ≤ y.base := fun y hy => by
    rcases List.mem_append.mp hy with q | q
    · exact N y q
    · cases List.mem_singleton.mp q; exact hge
  exact OwnDone.go st (K T' h' ⟨_, X', e', e0, NN, E0, G0⟩ (Keep.of_wr W') (hvs ▸ F.set W'))
theorem own_bastore {x : Int32} (C : OwnCx p Z s m meth c own nm bytes maxL rt) (P : OwnPos p l e R s m args below meth c Z ws h0 T h cells slots)
    (F : OwnAry Z h a k .byte vs) (h1 : ¬ j < 0) (h2 : j.toNatClampNeg < vs.length) (hge : a ∈ ws ∨ h0.size ≤ a) (hd : decode bytes pc = .ok (.bastore, 1)) (hvs : vs.set j.toNatClampNeg (.int (nar .byte x)) = vs')
    (K : ∀ T' h', OwnPos p l e R s m args below meth c Z ws h0 T' h' cells slots → Keep h h' [a] → OwnAry Z h' a k .byte vs' → OwnDone p e below W (T'.setTop (mkF m (pc + 1) Ls rest))) : OwnDone p e below W (T.setTop (mkF m pc Ls (.int x :: .int j :: .ref a :: rest))) := by
  obtain ⟨hx, hZ, hown, hnm, hby, hml, hret, hlk⟩ := C
  obtain ⟨locs, X, eT, e0, N, E0, G0⟩ := P
  obtain ⟨c0, A0, r1, r2⟩ := id F
  obtain ⟨T', h', X', e', W', st⟩ := stB X hx hZ eT A0 (own_in r2 h1 h2) (g := mkF m pc Ls (.int x :: .int j :: .ref a :: rest)) rfl rfl (hb hby hd)
  have NN : ∀ y ∈ locs ++ [⟨a, j.toNatClampNeg⟩], y.base ∈ ws ∨ h0.size ≤ y.base := fun y hy => by
    rcases List.mem_append.mp hy with q | q
    · exact N y q
    · cases List.mem_singleton.mp q; exact hge
  exact OwnDone.go st (K T' h' ⟨_, X', e', e0, NN, E0, G0⟩ (Keep.of_wr W') (hvs ▸ F.set W'))
theorem own_aastore {v : Value} (C : OwnCx p Z s m meth c own nm bytes maxL rt) (P : OwnPos p l e R s m args below meth c Z ws h0 T h cells slots)
    (F : OwnAry Z h a k ty vs) (hty : ty.isReference = true) (h1 : ¬ j < 0) (h2 : j.toNatClampNeg < vs.length) (S : Sto Z h a v) (hge : a ∈ ws ∨ h0.size ≤ a) (hd : decode bytes pc = .ok (.aastore, 1)) (hvs : vs.set j.toNatClampNeg v = vs')
    (K : ∀ T' h', OwnPos p l e R s m args below meth c Z ws h0 T' h' cells slots → Keep h h' [a] → OwnAry Z h' a k ty vs' → OwnDone p e below W (T'.setTop (mkF m (pc + 1) Ls rest))) : OwnDone p e below W (T.setTop (mkF m pc Ls (v :: .int j :: .ref a :: rest))) := by
  obtain ⟨hx, hZ, hown, hnm, hby, hml, hret, hlk⟩ := C
  obtain ⟨locs, X, eT, e0, N, E0, G0⟩ := P
  obtain ⟨c0, A0, r1, r2⟩ := id F
  obtain ⟨T', h', X', e', W', st⟩ := stR X hx hZ eT A0 (own_in r2 h1 h2) hty S (g := mkF m pc Ls (v :: .int j :: .ref a :: rest)) rfl rfl (hb hby hd)
  have NN : ∀ y ∈ locs ++ [⟨a, j.toNatClampNeg⟩], y.base ∈ ws ∨ h0.size ≤ y.base := fun y hy => by
    rcases List.mem_append.mp hy with q | q
    · exact N y q
    · cases List.mem_singleton.mp q; exact hge
  exact OwnDone.go st (K T' h' ⟨_, X', e', e0, NN, E0, G0⟩ (Keep.of_wr W') (hvs ▸ F.set W'))
theorem own_iaload {v : Value} {target : State} (C : OwnCx p Z s m meth c own nm bytes maxL rt) (P : OwnPos p l e R s m args below meth c Z ws h0 T h cells slots)
    (F : OwnAry Z h a k .int vs) (h1 : ¬ j < 0) (hv : vs[j.toNatClampNeg]? = some v) (hd : decode bytes pc = .ok (.iaload, 1))
    (K : Steps p.tables e below (T.setTop (mkF m (pc + 1) Ls (v :: rest))) target) : Steps p.tables e below (T.setTop (mkF m pc Ls (.int j :: .ref a :: rest))) target := by
  obtain ⟨hx, hZ, hown, hnm, hby, hml, hret, hlk⟩ := C
  obtain ⟨locs, X, eT, e0, N, E0, G0⟩ := P
  obtain ⟨c0, A0, r1, r2⟩ := F
  exact X.iaload hx (j := j) (v := v) (by rw [eT]; exact A0.1) (State.isArrayOf_alike hZ.alike A0.2.1) A0.2.2 (own_in r2 h1 (List.getElem?_eq_some_iff.mp hv).1) ((own_at r2).trans hv) (g := mkF m pc Ls (.int j :: .ref a :: rest)) rfl rfl (hb hby hd) target K
theorem own_laload {v : Value} {target : State} (C : OwnCx p Z s m meth c own nm bytes maxL rt) (P : OwnPos p l e R s m args below meth c Z ws h0 T h cells slots)
    (F : OwnAry Z h a k .long vs) (h1 : ¬ j < 0) (hv : vs[j.toNatClampNeg]? = some v) (hd : decode bytes pc = .ok (.laload, 1))
    (K : Steps p.tables e below (T.setTop (mkF m (pc + 1) Ls (v :: rest))) target) : Steps p.tables e below (T.setTop (mkF m pc Ls (.int j :: .ref a :: rest))) target := by
  obtain ⟨hx, hZ, hown, hnm, hby, hml, hret, hlk⟩ := C
  obtain ⟨locs, X, eT, e0, N, E0, G0⟩ := P
  obtain ⟨c0, A0, r1, r2⟩ := F
  exact X.laload hx (j := j) (v := v) (by rw [eT]; exact A0.1) (State.isArrayOf_alike hZ.alike A0.2.1) A0.2.2 (own_in r2 h1 (List.getElem?_eq_some_iff.mp hv).1) ((own_at r2).trans hv) (g := mkF m pc Ls (.int j :: .ref a :: rest)) rfl rfl (hb hby hd) target K
theorem own_caload {v : Value} {target : State} (C : OwnCx p Z s m meth c own nm bytes maxL rt) (P : OwnPos p l e R s m args below meth c Z ws h0 T h cells slots)
    (F : OwnAry Z h a k .char vs) (h1 : ¬ j < 0) (hv : vs[j.toNatClampNeg]? = some v) (hd : decode bytes pc = .ok (.caload, 1))
    (K : Steps p.tables e below (T.setTop (mkF m (pc + 1) Ls (v :: rest))) target) : Steps p.tables e below (T.setTop (mkF m pc Ls (.int j :: .ref a :: rest))) target := by
  obtain ⟨hx, hZ, hown, hnm, hby, hml, hret, hlk⟩ := C
  obtain ⟨locs, X, eT, e0, N, E0, G0⟩ := P
  obtain ⟨c0, A0, r1, r2⟩ := F
  exact X.caload hx (j := j) (v := v) (by rw [eT]; exact A0.1) (State.isArrayOf_alike hZ.alike A0.2.1) A0.2.2 (own_in r2 h1 (List.getElem?_eq_some_iff.mp hv).1) ((own_at r2).trans hv) (g := mkF m pc Ls (.int j :: .ref a :: rest)) rfl rfl (hb hby hd) target K
theorem own_baload {v : Value} {target : State} (C : OwnCx p Z s m meth c own nm bytes maxL rt) (P : OwnPos p l e R s m args below meth c Z ws h0 T h cells slots)
    (F : OwnAry Z h a k .byte vs) (h1 : ¬ j < 0) (hv : vs[j.toNatClampNeg]? = some v) (hd : decode bytes pc = .ok (.baload, 1))
    (K : Steps p.tables e below (T.setTop (mkF m (pc + 1) Ls (v :: rest))) target) : Steps p.tables e below (T.setTop (mkF m pc Ls (.int j :: .ref a :: rest))) target := by
  obtain ⟨hx, hZ, hown, hnm, hby, hml, hret, hlk⟩ := C
  obtain ⟨locs, X, eT, e0, N, E0, G0⟩ := P
  obtain ⟨c0, A0, r1, r2⟩ := F
  exact X.baloadBytes hx (j := j) (v := v) (by rw [eT]; exact A0.1) (State.isArrayOf_alike hZ.alike A0.2.1) A0.2.2 (own_in r2 h1 (List.getElem?_eq_some_iff.mp hv).1) ((own_at r2).trans hv) (g := mkF m pc Ls (.int j :: .ref a :: rest)) rfl rfl (hb hby hd) target K
theorem own_aaload {v : Value} {target : State} (C : OwnCx p Z s m meth c own nm bytes maxL rt) (P : OwnPos p l e R s m args below meth c Z ws h0 T h cells slots)
    (F : OwnAry Z h a k ty vs) (hty : ty.isReference = true) (h1 : ¬ j < 0) (hv : vs[j.toNatClampNeg]? = some v) (hd : decode bytes pc = .ok (.aaload, 1))
    (K : Steps p.tables e below (T.setTop (mkF m (pc + 1) Ls (v :: rest))) target) : Steps p.tables e below (T.setTop (mkF m pc Ls (.int j :: .ref a :: rest))) target := by
  obtain ⟨hx, hZ, hown, hnm, hby, hml, hret, hlk⟩ := C
  obtain ⟨locs, X, eT, e0, N, E0, G0⟩ := P
  obtain ⟨c0, A0, r1, r2⟩ := F
  exact X.aaload hx (j := j) (v := v) (by rw [eT]; exact A0.1) (State.isArrayOf_alike hZ.alike A0.2.1) hty A0.2.2 (own_in r2 h1 (List.getElem?_eq_some_iff.mp hv).1) ((own_at r2).trans hv) (g := mkF m pc Ls (.int j :: .ref a :: rest)) rfl rfl (hb hby hd) target K
theorem own_alen {target : State} (C : OwnCx p Z s m meth c own nm bytes maxL rt) (P : OwnPos p l e R s m args below meth c Z ws h0 T h cells slots)
    (F : OwnAry Z h a k ty vs) (hd : decode bytes pc = .ok (.arraylength, 1))
    (K : Steps p.tables e below (T.setTop (mkF m (pc + 1) Ls (.int vs.length.toInt32 :: rest))) target) : Steps p.tables e below (T.setTop (mkF m pc Ls (.ref a :: rest))) target := by
  obtain ⟨hx, hZ, hown, hnm, hby, hml, hret, hlk⟩ := C
  obtain ⟨locs, X, eT, e0, N, E0, G0⟩ := P
  obtain ⟨c0, A0, r1, r2⟩ := F
  have e1 : c0.slots.size = vs.length := by rw [← r2]; simp
  exact X.arraylength hx (by rw [eT]; exact A0.1) (State.isArrayOf_alike hZ.alike A0.2.1) (g := mkF m pc Ls (.ref a :: rest)) rfl rfl (hb hby hd) target (by rw [e1]; exact K)
theorem own_alenN {n : Nat} {target : State} (C : OwnCx p Z s m meth c own nm bytes maxL rt) (P : OwnPos p l e R s m args below meth c Z ws h0 T h cells slots)
    (F : OwnAry Z h a k ty vs) (hl : vs.length = n) (hd : decode bytes pc = .ok (.arraylength, 1))
    (K : Steps p.tables e below (T.setTop (mkF m (pc + 1) Ls (.int n.toInt32 :: rest))) target) : Steps p.tables e below (T.setTop (mkF m pc Ls (.ref a :: rest))) target :=
  own_alen C P F hd (by rw [hl]; exact K)
end Ary
end Own

def own_lay0 : List (String × String × String) := [("com/example/tidx/tidx/index/Run", "rows", "[[I"), ("com/example/tidx/tidx/index/Run", "values", "[[[Ljava/lang/Object;"), ("com/example/tidx/tidx/index/Run", "from", "[I"), ("com/example/tidx/tidx/index/Run", "to", "[I"), ("com/example/tidx/tidx/index/Run", "own", "[I"), ("com/example/tidx/tidx/index/Run", "ownValues", "[[Ljava/lang/Object;"), ("com/example/tidx/tidx/index/Run", "valued", "Z"), ("com/example/tidx/tidx/index/Run", "slices", "I"), ("com/example/tidx/tidx/index/Run", "owned", "I"), ("com/example/tidx/tidx/index/Run", "size", "I"), ("com/example/tidx/tidx/index/Run", "sorted", "[J"), ("com/example/tidx/tidx/index/Run", "placed", "[I")]
set_option maxRecDepth 65536 in
theorem own_laid0 {Z : State} {a0 : Array Value} (hw : ∀ d ∈ tables_1, d.before a0 Z = true) : OwnLaid Z a0 "com/example/tidx/tidx/index/Run" own_lay0 := by
  refine ⟨?_, by decide +kernel, fun q hq => Option.isSome_iff_exists.mp (List.all_eq_true.mp (by decide +kernel : own_lay0.all (fun q => (parseFieldDescriptor q.2.2).isSome) = true) q hq)⟩
  intro q hq
  simp only [own_lay0, List.mem_cons, List.not_mem_nil, or_false] at hq
  rcases hq with rfl | rfl | rfl | rfl | rfl | rfl | rfl | rfl | rfl | rfl | rfl | rfl
  · exact Or.inl (hw _ (List.mem_of_getElem? (i := 18) rfl))
  · exact Or.inl (hw _ (List.mem_of_getElem? (i := 22) rfl))
  · exact Or.inl (hw _ (List.mem_of_getElem? (i := 24) rfl))
  · exact Or.inl (hw _ (List.mem_of_getElem? (i := 26) rfl))
  · exact Or.inl (hw _ (List.mem_of_getElem? (i := 28) rfl))
  · exact Or.inl (hw _ (List.mem_of_getElem? (i := 31) rfl))
  · exact Or.inr (hw _ (List.mem_of_getElem? (i := 33) rfl))
  · exact Or.inl (hw _ (List.mem_of_getElem? (i := 40) rfl))
  · exact Or.inl (hw _ (List.mem_of_getElem? (i := 51) rfl))
  · exact Or.inl (hw _ (List.mem_of_getElem? (i := 53) rfl))
  · exact Or.inl (hw _ (List.mem_of_getElem? (i := 74) rfl))
  · exact Or.inl (hw _ (List.mem_of_getElem? (i := 76) rfl))
theorem pd_0 : parseMethodDescriptor "([I[[Ljava/lang/Object;II)V" = some ⟨[(.array .int), (.array (.array (.object "java/lang/Object"))), .int, .int], none⟩ := by decide +kernel
theorem pd_1 : parseMethodDescriptor "(III)V" = some ⟨[.int, .int, .int], none⟩ := by decide +kernel
theorem pd_2 : parseMethodDescriptor "([Ljava/lang/Object;IILjava/lang/Object;)V" = some ⟨[(.array (.object "java/lang/Object")), .int, .int, (.object "java/lang/Object")], none⟩ := by decide +kernel
theorem pd_3 : parseMethodDescriptor "(I[Ljava/lang/Object;)V" = some ⟨[.int, (.array (.object "java/lang/Object"))], none⟩ := by decide +kernel
theorem pd_4 : parseMethodDescriptor "()[Ljava/lang/Object;" = some ⟨[], some (.array (.object "java/lang/Object"))⟩ := by decide +kernel
theorem pd_5 : parseMethodDescriptor "(II)I" = some ⟨[.int, .int], some .int⟩ := by decide +kernel
theorem pd_6 : parseMethodDescriptor "()V" = some ⟨[], none⟩ := by decide +kernel
theorem pd_7 : parseMethodDescriptor "(Z)V" = some ⟨[.boolean], none⟩ := by decide +kernel
theorem pd_8 : parseMethodDescriptor "(Lcom/example/tidx/tidx/index/Run;II[Ljava/lang/Object;[I[[Ljava/lang/Object;[Ljava/lang/Object;)Z" = some ⟨[(.object "com/example/tidx/tidx/index/Run"), .int, .int, (.array (.object "java/lang/Object")), (.array .int), (.array (.array (.object "java/lang/Object"))), (.array (.object "java/lang/Object"))], some .boolean⟩ := by decide +kernel
theorem own_bnd {x : Int32} {n : Int} {k : Nat} (h : 0 ≤ x.toInt ∧ x.toInt ≤ n) (hk : n < (k : Int)) : ¬ x < 0 ∧ x.toNatClampNeg < k := by
  have e0 : (0 : Int32).toInt = 0 := by decide
  refine ⟨by rw [Int32.lt_iff_toInt_lt]; omega, ?_⟩
  rw [Int32.toNatClampNeg]
  omega
theorem own_inc {x : Int32} {n : Int} (h : 0 ≤ x.toInt ∧ x.toInt ≤ n) (hk : n ≤ 100) : 0 ≤ (x + 1).toInt ∧ (x + 1).toInt ≤ n + 1 := by
  have h1 := c_iadd x 1
  have e1 : (1 : Int32).toInt = 1 := by decide
  have h2 := rng32 (x + 1)
  omega
theorem own_incNe {x : Int32} {n : Int} (h : 0 ≤ x.toInt ∧ x.toInt ≤ n) (hk : n ≤ 100) : x + 1 ≠ 0 := fun q => by
  have h1 := c_iadd x 1
  have e1 : (1 : Int32).toInt = 1 := by decide
  have e0 : (0 : Int32).toInt = 0 := by decide
  have h2 : (x + 1).toInt = 0 := by rw [q]; exact e0
  omega
theorem own_ne0 {x : Int32} (h : 0 ≤ x.toInt) (q : x ≠ 0) : x.toNatClampNeg ≠ 0 := fun e => by
  have e0 : (0 : Int32).toInt = 0 := by decide
  rw [Int32.toNatClampNeg] at e
  exact q (Int32.toInt_inj.mp (by omega))
theorem own_not4 {x : Int32} (h : x.toNatClampNeg < 4) : ¬ x = 4 := fun q => by rw [q] at h; exact absurd h (by decide)
theorem own_not16 {x : Int32} (h : x.toNatClampNeg < 16) : ¬ x = 16 := fun q => by rw [q] at h; exact absurd h (by decide)
theorem own_012 {x : Int32} {n : Int} (h : 0 ≤ x.toInt ∧ x.toInt ≤ n) (hn : n ≤ 2) : x = 0 ∨ x = 1 ∨ x = 2 := by
  simp only [← Int32.toInt_inj]
  have e0 : (0 : Int32).toInt = 0 := by decide
  have e1 : (1 : Int32).toInt = 1 := by decide
  have e2 : (2 : Int32).toInt = 2 := by decide
  rw [e0, e1, e2]
  omega
theorem own_four (x : Int32) : x &&& 3 = 0 ∨ x &&& 3 = 1 ∨ x &&& 3 = 2 ∨ x &&& 3 = 3 := by
  have h := c_and x 3 (by decide)
  simp only [← Int32.toInt_inj]
  have e0 : (0 : Int32).toInt = 0 := by decide
  have e1 : (1 : Int32).toInt = 1 := by decide
  have e2 : (2 : Int32).toInt = 2 := by decide
  have e3 : (3 : Int32).toInt = 3 := by decide
  rw [e0, e1, e2, e3]
  omega
def own_Inv (Z : State) (h : Heap) (r aR aV aF aT aO aW st en : Addr) (kR kV kF kT kO kW kS kE : ClassId) (e0 e1 e2 e3 : Addr) (n : Int) : Prop :=
  ∃ (vd sl ow sz : Int32) (rr vv ff tt oo ww : List Value) (s0 s1 : Value),
    OwnObj Z h r "com/example/tidx/tidx/index/Run" own_lay0 [(.ref aR), (.ref aV), (.ref aF), (.ref aT), (.ref aO), (.ref aW), (.int vd), (.int sl), (.int ow), (.int sz), .null, .null] ∧ OwnAry Z h aR kR (.array .int) rr ∧ OwnAry Z h aV kV (.array (.array (.object "java/lang/Object"))) vv ∧ OwnAry Z h aF kF .int ff ∧ OwnAry Z h aT kT .int tt ∧ OwnAry Z h aO kO .int oo ∧ OwnAry Z h aW kW (.array (.object "java/lang/Object")) ww ∧ OwnAry Z h st kS (.object "java/lang/Object") [s0, s1] ∧ OwnAry Z h en kE (.array (.object "java/lang/Object")) [.ref e0, .ref e1, .ref e2, .ref e3] ∧
    (rr.length = 4 ∧ vv.length = 4 ∧ ff.length = 4 ∧ tt.length = 4 ∧ oo.length = 16 ∧ ww.length = 16) ∧
    (0 ≤ sl.toInt ∧ sl.toInt ≤ n) ∧ (0 ≤ ow.toInt ∧ ow.toInt ≤ n) ∧
    ((ow = 0 ∧ s1 = .null) ∨ (ow ≠ 0 ∧ ww[0]? = some s1 ∧ ∃ a, s1 = .ref a ∧ Ins Z h a "java/lang/Object" true)) ∧
    ((sl = 0 ∧ s0 = .null) ∨ (sl ≠ 0 ∧ ∃ a f, s0 = .ref a ∧ ff[0]? = some (.int f) ∧ ¬ f < 0 ∧ ((vv[0]? = some (.ref aW) ∧ ww[f.toNatClampNeg]? = some s0 ∧ f = 0) ∨ (vv[0]? = some (.ref en) ∧ ([.ref e0, .ref e1, .ref e2, .ref e3] : List Value)[f.toNatClampNeg]? = some s0))))
theorem dmin_0 : decode jdk_29_method_69_code 0 = .ok (.iload_n 0, 1) := by decide +kernel
theorem dmin_1 : decode jdk_29_method_69_code 1 = .ok (.iload_n 1, 1) := by decide +kernel
theorem dmin_2 : decode jdk_29_method_69_code 2 = .ok (.if_icmp .gt 7, 3) := by decide +kernel
theorem dmin_5 : decode jdk_29_method_69_code 5 = .ok (.iload_n 0, 1) := by decide +kernel
theorem dmin_6 : decode jdk_29_method_69_code 6 = .ok (.goto 4, 3) := by decide +kernel
theorem dmin_9 : decode jdk_29_method_69_code 9 = .ok (.iload_n 1, 1) := by decide +kernel
theorem dmin_10 : decode jdk_29_method_69_code 10 = .ok (.ireturn, 1) := by decide +kernel
theorem efmin (m : MethodId) (x1 : Int32) (x2 : Int32)  : entryFrame m #[(.int x1), (.int x2)] 2 = mkF m 0 #[.val (.int x1), .val (.int x2)] [] := by first | (simp [entryFrame, mkF, argsToLocals, Value.category]; done) | rfl
set_option maxRecDepth 65536 in
set_option maxHeartbeats 40000000 in
theorem rmmin (l : Launch) (Z : State) (a0 : Array Value) (hw : ∀ d ∈ tables_1, d.before a0 Z = true) (x1 : Int32) (x2 : Int32)  (h0 : Heap) (hE : Ext Z.heap h0)   :
    OwnMeets l (⟨"java/lang/Math", "min", "(II)I"⟩ : MethodName) jdk_29_method_69_code 2 (some .int) ({ frames := 0, cells := 0, slots := 0, locals := 0 } : Room) Z [] #[(.int x1), (.int x2)] h0 (fun v h => (∃ z : Int32, v = some (.int z)) ∧ h0 = h) := by
  refine OwnMeets.of (by decide +kernel) hE all0 ?_
  intro p e s m below meth c T C P
  have hx := C.1
  have hby := C.2.2.2.2.1
  rw [show entryFrame m #[(.int x1), (.int x2)] 2 = _ from efmin m x1 x2]
  show OwnDone p e below _ (T.setTop (mkF m 0 #[.val (.int x1), .val (.int x2)] []))
  refine OwnDone.go (A := (T.setTop (mkF m 2 #[.val (.int x1), .val (.int x2)] [(.int x2), (.int x1)]))) (fun tQ kQ => ?_) ?_
  · refine XS.iloadN P.here hx rfl (hb hby dmin_0) rfl ?_
    show Steps p.tables e below (T.setTop (mkF m 1 #[.val (.int x1), .val (.int x2)] [(.int x1)])) _
    refine XS.iloadN P.here hx rfl (hb hby dmin_1) rfl ?_
    show Steps p.tables e below (T.setTop (mkF m 2 #[.val (.int x1), .val (.int x2)] [(.int x2), (.int x1)])) _
    exact kQ
  show OwnDone p e below _ (T.setTop (mkF m 2 #[.val (.int x1), .val (.int x2)] [(.int x2), (.int x1)]))
  by_cases hc2 : x2 < x1
  · refine OwnDone.go (A := (T.setTop (mkF m 9 #[.val (.int x1), .val (.int x2)] []))) (fun tQ kQ => XS.icmpYes P.here hx rfl (pc0 := 2) (pc' := 9) rfl (hb hby dmin_2) rfl (XT.ii_gt_t hc2) (by decide) (by decide) kQ) ?_
    show OwnDone p e below _ (T.setTop (mkF m 9 #[.val (.int x1), .val (.int x2)] []))
    refine OwnDone.go (A := (T.setTop (mkF m 10 #[.val (.int x1), .val (.int x2)] [(.int x2)]))) (fun tQ kQ => ?_) ?_
    · refine XS.iloadN P.here hx rfl (hb hby dmin_9) rfl ?_
      show Steps p.tables e below (T.setTop (mkF m 10 #[.val (.int x1), .val (.int x2)] [(.int x2)])) _
      exact kQ
    show OwnDone p e below _ (T.setTop (mkF m 10 #[.val (.int x1), .val (.int x2)] [(.int x2)]))
    refine own_retI C P dmin_10 (by decide) (by decide) ⟨⟨_, rfl⟩, rfl⟩
  · refine OwnDone.go (A := (T.setTop (mkF m 5 #[.val (.int x1), .val (.int x2)] []))) (fun tQ kQ => XS.icmpNo P.here hx rfl (hb hby dmin_2) rfl (XT.ii_gt_f hc2) kQ) ?_
    show OwnDone p e below _ (T.setTop (mkF m 5 #[.val (.int x1), .val (.int x2)] []))
    refine OwnDone.go (A := (T.setTop (mkF m 10 #[.val (.int x1), .val (.int x2)] [(.int x1)]))) (fun tQ kQ => ?_) ?_
    · refine XS.iloadN P.here hx rfl (hb hby dmin_5) rfl ?_
      show Steps p.tables e below (T.setTop (mkF m 6 #[.val (.int x1), .val (.int x2)] [(.int x1)])) _
      refine XS.goto P.here hx rfl (pc0 := 6) (pc' := 10) rfl (hb hby dmin_6) (by decide) (by decide) ?_
      show Steps p.tables e below (T.setTop (mkF m 10 #[.val (.int x1), .val (.int x2)] [(.int x1)])) _
      exact kQ
    show OwnDone p e below _ (T.setTop (mkF m 10 #[.val (.int x1), .val (.int x2)] [(.int x1)]))
    refine own_retI C P dmin_10 (by decide) (by decide) ⟨⟨_, rfl⟩, rfl⟩
theorem dinit_0 : decode prog_95_method_1_code 0 = .ok (.aload_n 0, 1) := by decide +kernel
theorem dinit_1 : decode prog_95_method_1_code 1 = .ok (.invokespecial 1, 3) := by decide +kernel
theorem dinit_4 : decode prog_95_method_1_code 4 = .ok (.aload_n 0, 1) := by decide +kernel
theorem dinit_5 : decode prog_95_method_1_code 5 = .ok (.iconst 4, 1) := by decide +kernel
theorem dinit_6 : decode prog_95_method_1_code 6 = .ok (.anewarray 7, 3) := by decide +kernel
theorem dinit_9 : decode prog_95_method_1_code 9 = .ok (.putfield 9, 3) := by decide +kernel
theorem dinit_12 : decode prog_95_method_1_code 12 = .ok (.aload_n 0, 1) := by decide +kernel
theorem dinit_13 : decode prog_95_method_1_code 13 = .ok (.aload_n 0, 1) := by decide +kernel
theorem dinit_14 : decode prog_95_method_1_code 14 = .ok (.getfield 9, 3) := by decide +kernel
theorem dinit_17 : decode prog_95_method_1_code 17 = .ok (.arraylength, 1) := by decide +kernel
theorem dinit_18 : decode prog_95_method_1_code 18 = .ok (.anewarray 15, 3) := by decide +kernel
theorem dinit_21 : decode prog_95_method_1_code 21 = .ok (.putfield 17, 3) := by decide +kernel
theorem dinit_24 : decode prog_95_method_1_code 24 = .ok (.aload_n 0, 1) := by decide +kernel
theorem dinit_25 : decode prog_95_method_1_code 25 = .ok (.aload_n 0, 1) := by decide +kernel
theorem dinit_26 : decode prog_95_method_1_code 26 = .ok (.getfield 9, 3) := by decide +kernel
theorem dinit_29 : decode prog_95_method_1_code 29 = .ok (.arraylength, 1) := by decide +kernel
theorem dinit_30 : decode prog_95_method_1_code 30 = .ok (.newarray .int, 2) := by decide +kernel
theorem dinit_32 : decode prog_95_method_1_code 32 = .ok (.putfield 21, 3) := by decide +kernel
theorem dinit_35 : decode prog_95_method_1_code 35 = .ok (.aload_n 0, 1) := by decide +kernel
theorem dinit_36 : decode prog_95_method_1_code 36 = .ok (.aload_n 0, 1) := by decide +kernel
theorem dinit_37 : decode prog_95_method_1_code 37 = .ok (.getfield 9, 3) := by decide +kernel
theorem dinit_40 : decode prog_95_method_1_code 40 = .ok (.arraylength, 1) := by decide +kernel
theorem dinit_41 : decode prog_95_method_1_code 41 = .ok (.newarray .int, 2) := by decide +kernel
theorem dinit_43 : decode prog_95_method_1_code 43 = .ok (.putfield 24, 3) := by decide +kernel
theorem dinit_46 : decode prog_95_method_1_code 46 = .ok (.aload_n 0, 1) := by decide +kernel
theorem dinit_47 : decode prog_95_method_1_code 47 = .ok (.bipush 16, 2) := by decide +kernel
theorem dinit_49 : decode prog_95_method_1_code 49 = .ok (.newarray .int, 2) := by decide +kernel
theorem dinit_51 : decode prog_95_method_1_code 51 = .ok (.putfield 27, 3) := by decide +kernel
theorem dinit_54 : decode prog_95_method_1_code 54 = .ok (.aload_n 0, 1) := by decide +kernel
theorem dinit_55 : decode prog_95_method_1_code 55 = .ok (.aload_n 0, 1) := by decide +kernel
theorem dinit_56 : decode prog_95_method_1_code 56 = .ok (.getfield 27, 3) := by decide +kernel
theorem dinit_59 : decode prog_95_method_1_code 59 = .ok (.arraylength, 1) := by decide +kernel
theorem dinit_60 : decode prog_95_method_1_code 60 = .ok (.anewarray 30, 3) := by decide +kernel
theorem dinit_63 : decode prog_95_method_1_code 63 = .ok (.putfield 32, 3) := by decide +kernel
theorem dinit_66 : decode prog_95_method_1_code 66 = .ok (.aload_n 0, 1) := by decide +kernel
theorem dinit_67 : decode prog_95_method_1_code 67 = .ok (.iload_n 1, 1) := by decide +kernel
theorem dinit_68 : decode prog_95_method_1_code 68 = .ok (.putfield 35, 3) := by decide +kernel
theorem dinit_71 : decode prog_95_method_1_code 71 = .ok (.return_, 1) := by decide +kernel
theorem pninit : plainName "com/example/tidx/tidx/index/Run" = true := by first | (simp [plainName, overriddenIn]; done) | decide +kernel
theorem efinit (m : MethodId) (a1 : Addr) (vd : Int32)  : entryFrame m #[(.ref a1), (.int vd)] 2 = mkF m 0 #[.val (.ref a1), .val (.int vd)] [] := by first | (simp [entryFrame, mkF, argsToLocals, Value.category]; done) | rfl
set_option maxRecDepth 65536 in
set_option maxHeartbeats 40000000 in
theorem rminit (l : Launch) (Z : State) (a0 : Array Value) (hw : ∀ d ∈ tables_1, d.before a0 Z = true) (a1 : Addr) (vd : Int32)  (h0 : Heap) (hE : Ext Z.heap h0) (g_a1 : Z.heap.size ≤ a1) (b_vd : vd = 0 ∨ vd = 1) (O1 : OwnObj Z h0 a1 "com/example/tidx/tidx/index/Run" own_lay0 [.null, .null, .null, .null, .null, .null, (.int (0 : Int32)), (.int (0 : Int32)), (.int (0 : Int32)), (.int (0 : Int32)), .null, .null]) :
    OwnMeets l (⟨"com/example/tidx/tidx/index/Run", "<init>", "(Z)V"⟩ : MethodName) prog_95_method_1_code 2 none ({ frames := 1, cells := 6, slots := 48, locals := 12 } : Room) Z [a1] #[(.ref a1), (.int vd)] h0 (fun v h => v = none ∧ ∃ aR aV aF aT aO aW kR kV kF kT kO kW, OwnObj Z h a1 "com/example/tidx/tidx/index/Run" own_lay0 [(.ref aR), (.ref aV), (.ref aF), (.ref aT), (.ref aO), (.ref aW), (.int vd), (.int (0 : Int32)), (.int (0 : Int32)), (.int (0 : Int32)), .null, .null] ∧ OwnAry Z h aR kR (.array .int) [.null, .null, .null, .null] ∧ OwnAry Z h aV kV (.array (.array (.object "java/lang/Object"))) [.null, .null, .null, .null] ∧ OwnAry Z h aF kF .int [(.int (0 : Int32)), (.int (0 : Int32)), (.int (0 : Int32)), (.int (0 : Int32))] ∧ OwnAry Z h aT kT .int [(.int (0 : Int32)), (.int (0 : Int32)), (.int (0 : Int32)), (.int (0 : Int32))] ∧ OwnAry Z h aO kO .int [(.int (0 : Int32)), (.int (0 : Int32)), (.int (0 : Int32)), (.int (0 : Int32)), (.int (0 : Int32)), (.int (0 : Int32)), (.int (0 : Int32)), (.int (0 : Int32)), (.int (0 : Int32)), (.int (0 : Int32)), (.int (0 : Int32)), (.int (0 : Int32)), (.int (0 : Int32)), (.int (0 : Int32)), (.int (0 : Int32)), (.int (0 : Int32))] ∧ OwnAry Z h aW kW (.array (.object "java/lang/Object")) [.null, .null, .null, .null, .null, .null, .null, .null, .null, .null, .null, .null, .null, .null, .null, .null] ∧ @LT.lt Nat _ a1 aR ∧ @LT.lt Nat _ aR aV ∧ @LT.lt Nat _ aV aF ∧ @LT.lt Nat _ aF aT ∧ @LT.lt Nat _ aT aO ∧ @LT.lt Nat _ aO aW ∧ Z.vm.findClass "[I" = some kO ∧ Z.vm.findClass "[[Ljava/lang/Object;" = some kW ∧ OvrA Z kR .int "[I" ∧ OvrA Z kV (.array (.object "java/lang/Object")) "[[Ljava/lang/Object;" ∧ OvrA Z kW (.object "java/lang/Object") "[Ljava/lang/Object;" ∧ h0.size ≤ aR) := by
  refine OwnMeets.of (plainFor_of_name pninit) hE (allS g_a1 all0) ?_
  intro p e s m below meth c T C P
  have hx := C.1
  have hby := C.2.2.2.2.1
  rw [show entryFrame m #[(.ref a1), (.int vd)] 2 = _ from efinit m a1 vd]
  show OwnDone p e below _ (T.setTop (mkF m 0 #[.val (.ref a1), .val (.int vd)] []))
  refine OwnDone.go (A := (T.setTop (mkF m 1 #[.val (.ref a1), .val (.int vd)] [(.ref a1)]))) (fun tQ kQ => ?_) ?_
  · refine XS.aloadN P.here hx rfl (hb hby dinit_0) rfl rfl ?_
    show Steps p.tables e below (T.setTop (mkF m 1 #[.val (.ref a1), .val (.int vd)] [(.ref a1)])) _
    exact kQ
  show OwnDone p e below _ (T.setTop (mkF m 1 #[.val (.ref a1), .val (.int vd)] [(.ref a1)]))
  refine own_initO (wd := 0) (rest := []) C P (hw _ (List.mem_of_getElem? (i := 12) rfl)) (hw _ (List.mem_of_getElem? (i := 13) rfl)) (hw _ (List.mem_of_getElem? (i := 14) rfl)) rfl rfl dinit_1 (by decide) (by decide) (fun T1 P1 => ?_)
  show OwnDone p e below _ (T1.setTop (mkF m 4 #[.val (.ref a1), .val (.int vd)] []))
  refine OwnDone.go (A := (T1.setTop (mkF m 6 #[.val (.ref a1), .val (.int vd)] [(.int (4 : Int32)), (.ref a1)]))) (fun tQ kQ => ?_) ?_
  · refine XS.aloadN P1.here hx rfl (hb hby dinit_4) rfl rfl ?_
    show Steps p.tables e below (T1.setTop (mkF m 5 #[.val (.ref a1), .val (.int vd)] [(.ref a1)])) _
    refine XS.iconst P1.here hx rfl (hb hby dinit_5) ?_
    show Steps p.tables e below (T1.setTop (mkF m 6 #[.val (.ref a1), .val (.int vd)] [(.int (4 : Int32)), (.ref a1)])) _
    exact kQ
  show OwnDone p e below _ (T1.setTop (mkF m 6 #[.val (.ref a1), .val (.int vd)] [(.int (4 : Int32)), (.ref a1)]))
  refine own_newA (CC := "[I") (t := .int) (n := (4 : Int32)) (cap := 4) (vs := [.null, .null, .null, .null]) C P1 rfl (hw _ (List.mem_of_getElem? (i := 15) rfl)) (hw _ (List.mem_of_getElem? (i := 16) rfl)) dinit_6 (by decide) (by decide) (by decide) (by decide +kernel) rfl (by decide) (by decide) (fun T2 h2 a2 k2 ga2 la2 P2 K2 Y2 N2 V2 => ?_)
  have ge_a2 : h0.size ≤ a2 := by rw [ga2]; exact P1.keep.1
  have lt_a1_a2 : @LT.lt Nat _ a1 a2 := by rw [ga2]; exact O1.lt
  have O3_a1 := O1.keep K2 nin0
  show OwnDone p e below _ (T2.setTop (mkF m 9 #[.val (.ref a1), .val (.int vd)] [(.ref a2), (.ref a1)]))
  refine own_putO (ty := (.array (.array .int))) C P2 (hw _ (List.mem_of_getElem? (i := 17) rfl)) Via.refl O3_a1 (own_laid0 hw) 0 rfl rfl (Or.inl (hw _ (List.mem_of_getElem? (i := 18) rfl))) (hw _ (List.mem_of_getElem? (i := 7) rfl)) (by decide) rfl rfl (Or.inl (List.mem_of_getElem? (i := 0) rfl)) dinit_9 (vs' := [(.ref a2), .null, .null, .null, .null, .null, (.int (0 : Int32)), (.int (0 : Int32)), (.int (0 : Int32)), (.int (0 : Int32)), .null, .null]) rfl (fun T4 h4 P4 K4 O4 => ?_)
  have Y5_a2 := Y2.keep K4 (ninS (own_neL (by omega)) nin0)
  show OwnDone p e below _ (T4.setTop (mkF m 12 #[.val (.ref a1), .val (.int vd)] []))
  refine OwnDone.go (A := (T4.setTop (mkF m 14 #[.val (.ref a1), .val (.int vd)] [(.ref a1), (.ref a1)]))) (fun tQ kQ => ?_) ?_
  · refine XS.aloadN P4.here hx rfl (hb hby dinit_12) rfl rfl ?_
    show Steps p.tables e below (T4.setTop (mkF m 13 #[.val (.ref a1), .val (.int vd)] [(.ref a1)])) _
    refine XS.aloadN P4.here hx rfl (hb hby dinit_13) rfl rfl ?_
    show Steps p.tables e below (T4.setTop (mkF m 14 #[.val (.ref a1), .val (.int vd)] [(.ref a1), (.ref a1)])) _
    exact kQ
  show OwnDone p e below _ (T4.setTop (mkF m 14 #[.val (.ref a1), .val (.int vd)] [(.ref a1), (.ref a1)]))
  refine own_getF C P4 (host := "") (Or.inl (hw _ (List.mem_of_getElem? (i := 17) rfl))) Via.refl (O4.2 0 _ _ _ _ rfl rfl) dinit_14 (fun T6 P6 => ?_)
  show OwnDone p e below _ (T6.setTop (mkF m 17 #[.val (.ref a1), .val (.int vd)] [(.ref a2), (.ref a1)]))
  refine OwnDone.go (A := (T6.setTop (mkF m 18 #[.val (.ref a1), .val (.int vd)] [(.int (4 : Int32)), (.ref a1)]))) (fun tQ kQ => ?_) ?_
  · refine own_alen C P6 Y5_a2 dinit_17 ?_
    show Steps p.tables e below (T6.setTop (mkF m 18 #[.val (.ref a1), .val (.int vd)] [(.int (4 : Int32)), (.ref a1)])) _
    exact kQ
  show OwnDone p e below _ (T6.setTop (mkF m 18 #[.val (.ref a1), .val (.int vd)] [(.int (4 : Int32)), (.ref a1)]))
  refine own_newA (CC := "[[Ljava/lang/Object;") (t := (.array (.object "java/lang/Object"))) (n := (4 : Int32)) (cap := 4) (vs := [.null, .null, .null, .null]) C P6 rfl (hw _ (List.mem_of_getElem? (i := 19) rfl)) (hw _ (List.mem_of_getElem? (i := 20) rfl)) dinit_18 (by decide) (by decide) (by decide) (by decide +kernel) rfl (by decide) (by decide) (fun T7 h7 a7 k7 ga7 la7 P7 K7 Y7 N7 V7 => ?_)
  have ge_a7 : h0.size ≤ a7 := by rw [ga7]; exact P6.keep.1
  have lt_a2_a7 : @LT.lt Nat _ a2 a7 := by rw [ga7]; exact Y5_a2.lt
  have O8_a1 := O4.keep K7 nin0
  have Y9_a2 := Y5_a2.keep K7 nin0
  show OwnDone p e below _ (T7.setTop (mkF m 21 #[.val (.ref a1), .val (.int vd)] [(.ref a7), (.ref a1)]))
  refine own_putO (ty := (.array (.array (.array (.object "java/lang/Object"))))) C P7 (hw _ (List.mem_of_getElem? (i := 21) rfl)) Via.refl O8_a1 (own_laid0 hw) 1 rfl rfl (Or.inl (hw _ (List.mem_of_getElem? (i := 22) rfl))) (hw _ (List.mem_of_getElem? (i := 7) rfl)) (by decide) rfl rfl (Or.inl (List.mem_of_getElem? (i := 0) rfl)) dinit_21 (vs' := [(.ref a2), (.ref a7), .null, .null, .null, .null, (.int (0 : Int32)), (.int (0 : Int32)), (.int (0 : Int32)), (.int (0 : Int32)), .null, .null]) rfl (fun T10 h10 P10 K10 O10 => ?_)
  have Y11_a2 := Y9_a2.keep K10 (ninS (own_neL (by omega)) nin0)
  have Y12_a7 := Y7.keep K10 (ninS (own_neL (by omega)) nin0)
  show OwnDone p e below _ (T10.setTop (mkF m 24 #[.val (.ref a1), .val (.int vd)] []))
  refine OwnDone.go (A := (T10.setTop (mkF m 26 #[.val (.ref a1), .val (.int vd)] [(.ref a1), (.ref a1)]))) (fun tQ kQ => ?_) ?_
  · refine XS.aloadN P10.here hx rfl (hb hby dinit_24) rfl rfl ?_
    show Steps p.tables e below (T10.setTop (mkF m 25 #[.val (.ref a1), .val (.int vd)] [(.ref a1)])) _
    refine XS.aloadN P10.here hx rfl (hb hby dinit_25) rfl rfl ?_
    show Steps p.tables e below (T10.setTop (mkF m 26 #[.val (.ref a1), .val (.int vd)] [(.ref a1), (.ref a1)])) _
    exact kQ
  show OwnDone p e below _ (T10.setTop (mkF m 26 #[.val (.ref a1), .val (.int vd)] [(.ref a1), (.ref a1)]))
  refine own_getF C P10 (host := "") (Or.inl (hw _ (List.mem_of_getElem? (i := 17) rfl))) Via.refl (O10.2 0 _ _ _ _ rfl rfl) dinit_26 (fun T13 P13 => ?_)
  show OwnDone p e below _ (T13.setTop (mkF m 29 #[.val (.ref a1), .val (.int vd)] [(.ref a2), (.ref a1)]))
  refine OwnDone.go (A := (T13.setTop (mkF m 30 #[.val (.ref a1), .val (.int vd)] [(.int (4 : Int32)), (.ref a1)]))) (fun tQ kQ => ?_) ?_
  · refine own_alen C P13 Y11_a2 dinit_29 ?_
    show Steps p.tables e below (T13.setTop (mkF m 30 #[.val (.ref a1), .val (.int vd)] [(.int (4 : Int32)), (.ref a1)])) _
    exact kQ
  show OwnDone p e below _ (T13.setTop (mkF m 30 #[.val (.ref a1), .val (.int vd)] [(.int (4 : Int32)), (.ref a1)]))
  refine own_newP (aty := .int) (n := (4 : Int32)) (cap := 4) (vs := [(.int (0 : Int32)), (.int (0 : Int32)), (.int (0 : Int32)), (.int (0 : Int32))]) C P13 (hw _ (List.mem_of_getElem? (i := 5) rfl)) dinit_30 (by decide) (by decide) (by decide) (by decide +kernel) rfl (by decide) (by decide) (fun T14 h14 a14 k14 ga14 la14 P14 K14 Y14 N14 => ?_)
  have ge_a14 : h0.size ≤ a14 := by rw [ga14]; exact P13.keep.1
  have lt_a7_a14 : @LT.lt Nat _ a7 a14 := by rw [ga14]; exact Y12_a7.lt
  have O15_a1 := O10.keep K14 nin0
  have Y16_a2 := Y11_a2.keep K14 nin0
  have Y17_a7 := Y12_a7.keep K14 nin0
  have Y14 : OwnAry Z h14 a14 k14 .int [(.int (0 : Int32)), (.int (0 : Int32)), (.int (0 : Int32)), (.int (0 : Int32))] := Y14
  show OwnDone p e below _ (T14.setTop (mkF m 32 #[.val (.ref a1), .val (.int vd)] [(.ref a14), (.ref a1)]))
  refine own_putO (ty := (.array .int)) C P14 (hw _ (List.mem_of_getElem? (i := 23) rfl)) Via.refl O15_a1 (own_laid0 hw) 2 rfl rfl (Or.inl (hw _ (List.mem_of_getElem? (i := 24) rfl))) (hw _ (List.mem_of_getElem? (i := 7) rfl)) (by decide) rfl rfl (Or.inl (List.mem_of_getElem? (i := 0) rfl)) dinit_32 (vs' := [(.ref a2), (.ref a7), (.ref a14), .null, .null, .null, (.int (0 : Int32)), (.int (0 : Int32)), (.int (0 : Int32)), (.int (0 : Int32)), .null, .null]) rfl (fun T18 h18 P18 K18 O18 => ?_)
  have Y19_a2 := Y16_a2.keep K18 (ninS (own_neL (by omega)) nin0)
  have Y20_a7 := Y17_a7.keep K18 (ninS (own_neL (by omega)) nin0)
  have Y21_a14 := Y14.keep K18 (ninS (own_neL (by omega)) nin0)
  show OwnDone p e below _ (T18.setTop (mkF m 35 #[.val (.ref a1), .val (.int vd)] []))
  refine OwnDone.go (A := (T18.setTop (mkF m 37 #[.val (.ref a1), .val (.int vd)] [(.ref a1), (.ref a1)]))) (fun tQ kQ => ?_) ?_
  · refine XS.aloadN P18.here hx rfl (hb hby dinit_35) rfl rfl ?_
    show Steps p.tables e below (T18.setTop (mkF m 36 #[.val (.ref a1), .val (.int vd)] [(.ref a1)])) _
    refine XS.aloadN P18.here hx rfl (hb hby dinit_36) rfl rfl ?_
    show Steps p.tables e below (T18.setTop (mkF m 37 #[.val (.ref a1), .val (.int vd)] [(.ref a1), (.ref a1)])) _
    exact kQ
  show OwnDone p e below _ (T18.setTop (mkF m 37 #[.val (.ref a1), .val (.int vd)] [(.ref a1), (.ref a1)]))
  refine own_getF C P18 (host := "") (Or.inl (hw _ (List.mem_of_getElem? (i := 17) rfl))) Via.refl (O18.2 0 _ _ _ _ rfl rfl) dinit_37 (fun T22 P22 => ?_)
  show OwnDone p e below _ (T22.setTop (mkF m 40 #[.val (.ref a1), .val (.int vd)] [(.ref a2), (.ref a1)]))
  refine OwnDone.go (A := (T22.setTop (mkF m 41 #[.val (.ref a1), .val (.int vd)] [(.int (4 : Int32)), (.ref a1)]))) (fun tQ kQ => ?_) ?_
  · refine own_alen C P22 Y19_a2 dinit_40 ?_
    show Steps p.tables e below (T22.setTop (mkF m 41 #[.val (.ref a1), .val (.int vd)] [(.int (4 : Int32)), (.ref a1)])) _
    exact kQ
  show OwnDone p e below _ (T22.setTop (mkF m 41 #[.val (.ref a1), .val (.int vd)] [(.int (4 : Int32)), (.ref a1)]))
  refine own_newP (aty := .int) (n := (4 : Int32)) (cap := 4) (vs := [(.int (0 : Int32)), (.int (0 : Int32)), (.int (0 : Int32)), (.int (0 : Int32))]) C P22 (hw _ (List.mem_of_getElem? (i := 5) rfl)) dinit_41 (by decide) (by decide) (by decide) (by decide +kernel) rfl (by decide) (by decide) (fun T23 h23 a23 k23 ga23 la23 P23 K23 Y23 N23 => ?_)
  have ge_a23 : h0.size ≤ a23 := by rw [ga23]; exact P22.keep.1
  have lt_a14_a23 : @LT.lt Nat _ a14 a23 := by rw [ga23]; exact Y21_a14.lt
  have O24_a1 := O18.keep K23 nin0
  have Y25_a2 := Y19_a2.keep K23 nin0
  have Y26_a7 := Y20_a7.keep K23 nin0
  have Y27_a14 := Y21_a14.keep K23 nin0
  have Y23 : OwnAry Z h23 a23 k23 .int [(.int (0 : Int32)), (.int (0 : Int32)), (.int (0 : Int32)), (.int (0 : Int32))] := Y23
  show OwnDone p e below _ (T23.setTop (mkF m 43 #[.val (.ref a1), .val (.int vd)] [(.ref a23), (.ref a1)]))
  refine own_putO (ty := (.array .int)) C P23 (hw _ (List.mem_of_getElem? (i := 25) rfl)) Via.refl O24_a1 (own_laid0 hw) 3 rfl rfl (Or.inl (hw _ (List.mem_of_getElem? (i := 26) rfl))) (hw _ (List.mem_of_getElem? (i := 7) rfl)) (by decide) rfl rfl (Or.inl (List.mem_of_getElem? (i := 0) rfl)) dinit_43 (vs' := [(.ref a2), (.ref a7), (.ref a14), (.ref a23), .null, .null, (.int (0 : Int32)), (.int (0 : Int32)), (.int (0 : Int32)), (.int (0 : Int32)), .null, .null]) rfl (fun T28 h28 P28 K28 O28 => ?_)
  have Y29_a2 := Y25_a2.keep K28 (ninS (own_neL (by omega)) nin0)
  have Y30_a7 := Y26_a7.keep K28 (ninS (own_neL (by omega)) nin0)
  have Y31_a14 := Y27_a14.keep K28 (ninS (own_neL (by omega)) nin0)
  have Y32_a23 := Y23.keep K28 (ninS (own_neL (by omega)) nin0)
  show OwnDone p e below _ (T28.setTop (mkF m 46 #[.val (.ref a1), .val (.int vd)] []))
  refine OwnDone.go (A := (T28.setTop (mkF m 49 #[.val (.ref a1), .val (.int vd)] [(.int (16 : Int32)), (.ref a1)]))) (fun tQ kQ => ?_) ?_
  · refine XS.aloadN P28.here hx rfl (hb hby dinit_46) rfl rfl ?_
    show Steps p.tables e below (T28.setTop (mkF m 47 #[.val (.ref a1), .val (.int vd)] [(.ref a1)])) _
    refine XS.bipush P28.here hx rfl (hb hby dinit_47) ?_
    show Steps p.tables e below (T28.setTop (mkF m 49 #[.val (.ref a1), .val (.int vd)] [(.int (16 : Int32)), (.ref a1)])) _
    exact kQ
  show OwnDone p e below _ (T28.setTop (mkF m 49 #[.val (.ref a1), .val (.int vd)] [(.int (16 : Int32)), (.ref a1)]))
  refine own_newP (aty := .int) (n := (16 : Int32)) (cap := 16) (vs := [(.int (0 : Int32)), (.int (0 : Int32)), (.int (0 : Int32)), (.int (0 : Int32)), (.int (0 : Int32)), (.int (0 : Int32)), (.int (0 : Int32)), (.int (0 : Int32)), (.int (0 : Int32)), (.int (0 : Int32)), (.int (0 : Int32)), (.int (0 : Int32)), (.int (0 : Int32)), (.int (0 : Int32)), (.int (0 : Int32)), (.int (0 : Int32))]) C P28 (hw _ (List.mem_of_getElem? (i := 5) rfl)) dinit_49 (by decide) (by decide) (by decide) (by decide +kernel) rfl (by decide) (by decide) (fun T33 h33 a33 k33 ga33 la33 P33 K33 Y33 N33 => ?_)
  have ge_a33 : h0.size ≤ a33 := by rw [ga33]; exact P28.keep.1
  have lt_a23_a33 : @LT.lt Nat _ a23 a33 := by rw [ga33]; exact Y32_a23.lt
  have O34_a1 := O28.keep K33 nin0
  have Y35_a2 := Y29_a2.keep K33 nin0
  have Y36_a7 := Y30_a7.keep K33 nin0
  have Y37_a14 := Y31_a14.keep K33 nin0
  have Y38_a23 := Y32_a23.keep K33 nin0
  have Y33 : OwnAry Z h33 a33 k33 .int [(.int (0 : Int32)), (.int (0 : Int32)), (.int (0 : Int32)), (.int (0 : Int32)), (.int (0 : Int32)), (.int (0 : Int32)), (.int (0 : Int32)), (.int (0 : Int32)), (.int (0 : Int32)), (.int (0 : Int32)), (.int (0 : Int32)), (.int (0 : Int32)), (.int (0 : Int32)), (.int (0 : Int32)), (.int (0 : Int32)), (.int (0 : Int32))] := Y33
  show OwnDone p e below _ (T33.setTop (mkF m 51 #[.val (.ref a1), .val (.int vd)] [(.ref a33), (.ref a1)]))
  refine own_putO (ty := (.array .int)) C P33 (hw _ (List.mem_of_getElem? (i := 27) rfl)) Via.refl O34_a1 (own_laid0 hw) 4 rfl rfl (Or.inl (hw _ (List.mem_of_getElem? (i := 28) rfl))) (hw _ (List.mem_of_getElem? (i := 7) rfl)) (by decide) rfl rfl (Or.inl (List.mem_of_getElem? (i := 0) rfl)) dinit_51 (vs' := [(.ref a2), (.ref a7), (.ref a14), (.ref a23), (.ref a33), .null, (.int (0 : Int32)), (.int (0 : Int32)), (.int (0 : Int32)), (.int (0 : Int32)), .null, .null]) rfl (fun T39 h39 P39 K39 O39 => ?_)
  have Y40_a2 := Y35_a2.keep K39 (ninS (own_neL (by omega)) nin0)
  have Y41_a7 := Y36_a7.keep K39 (ninS (own_neL (by omega)) nin0)
  have Y42_a14 := Y37_a14.keep K39 (ninS (own_neL (by omega)) nin0)
  have Y43_a23 := Y38_a23.keep K39 (ninS (own_neL (by omega)) nin0)
  have Y44_a33 := Y33.keep K39 (ninS (own_neL (by omega)) nin0)
  show OwnDone p e below _ (T39.setTop (mkF m 54 #[.val (.ref a1), .val (.int vd)] []))
  refine OwnDone.go (A := (T39.setTop (mkF m 56 #[.val (.ref a1), .val (.int vd)] [(.ref a1), (.ref a1)]))) (fun tQ kQ => ?_) ?_
  · refine XS.aloadN P39.here hx rfl (hb hby dinit_54) rfl rfl ?_
    show Steps p.tables e below (T39.setTop (mkF m 55 #[.val (.ref a1), .val (.int vd)] [(.ref a1)])) _
    refine XS.aloadN P39.here hx rfl (hb hby dinit_55) rfl rfl ?_
    show Steps p.tables e below (T39.setTop (mkF m 56 #[.val (.ref a1), .val (.int vd)] [(.ref a1), (.ref a1)])) _
    exact kQ
  show OwnDone p e below _ (T39.setTop (mkF m 56 #[.val (.ref a1), .val (.int vd)] [(.ref a1), (.ref a1)]))
  refine own_getF C P39 (host := "") (Or.inl (hw _ (List.mem_of_getElem? (i := 27) rfl))) Via.refl (O39.2 4 _ _ _ _ rfl rfl) dinit_56 (fun T45 P45 => ?_)
  show OwnDone p e below _ (T45.setTop (mkF m 59 #[.val (.ref a1), .val (.int vd)] [(.ref a33), (.ref a1)]))
  refine OwnDone.go (A := (T45.setTop (mkF m 60 #[.val (.ref a1), .val (.int vd)] [(.int (16 : Int32)), (.ref a1)]))) (fun tQ kQ => ?_) ?_
  · refine own_alen C P45 Y44_a33 dinit_59 ?_
    show Steps p.tables e below (T45.setTop (mkF m 60 #[.val (.ref a1), .val (.int vd)] [(.int (16 : Int32)), (.ref a1)])) _
    exact kQ
  show OwnDone p e below _ (T45.setTop (mkF m 60 #[.val (.ref a1), .val (.int vd)] [(.int (16 : Int32)), (.ref a1)]))
  refine own_newA (CC := "[Ljava/lang/Object;") (t := (.object "java/lang/Object")) (n := (16 : Int32)) (cap := 16) (vs := [.null, .null, .null, .null, .null, .null, .null, .null, .null, .null, .null, .null, .null, .null, .null, .null]) C P45 rfl (hw _ (List.mem_of_getElem? (i := 29) rfl)) (hw _ (List.mem_of_getElem? (i := 3) rfl)) dinit_60 (by decide) (by decide) (by decide) (by decide +kernel) rfl (by decide) (by decide) (fun T46 h46 a46 k46 ga46 la46 P46 K46 Y46 N46 V46 => ?_)
  have ge_a46 : h0.size ≤ a46 := by rw [ga46]; exact P45.keep.1
  have lt_a33_a46 : @LT.lt Nat _ a33 a46 := by rw [ga46]; exact Y44_a33.lt
  have O47_a1 := O39.keep K46 nin0
  have Y48_a2 := Y40_a2.keep K46 nin0
  have Y49_a7 := Y41_a7.keep K46 nin0
  have Y50_a14 := Y42_a14.keep K46 nin0
  have Y51_a23 := Y43_a23.keep K46 nin0
  have Y52_a33 := Y44_a33.keep K46 nin0
  show OwnDone p e below _ (T46.setTop (mkF m 63 #[.val (.ref a1), .val (.int vd)] [(.ref a46), (.ref a1)]))
  refine own_putO (ty := (.array (.array (.object "java/lang/Object")))) C P46 (hw _ (List.mem_of_getElem? (i := 30) rfl)) Via.refl O47_a1 (own_laid0 hw) 5 rfl rfl (Or.inl (hw _ (List.mem_of_getElem? (i := 31) rfl))) (hw _ (List.mem_of_getElem? (i := 7) rfl)) (by decide) rfl rfl (Or.inl (List.mem_of_getElem? (i := 0) rfl)) dinit_63 (vs' := [(.ref a2), (.ref a7), (.ref a14), (.ref a23), (.ref a33), (.ref a46), (.int (0 : Int32)), (.int (0 : Int32)), (.int (0 : Int32)), (.int (0 : Int32)), .null, .null]) rfl (fun T53 h53 P53 K53 O53 => ?_)
  have Y54_a2 := Y48_a2.keep K53 (ninS (own_neL (by omega)) nin0)
  have Y55_a7 := Y49_a7.keep K53 (ninS (own_neL (by omega)) nin0)
  have Y56_a14 := Y50_a14.keep K53 (ninS (own_neL (by omega)) nin0)
  have Y57_a23 := Y51_a23.keep K53 (ninS (own_neL (by omega)) nin0)
  have Y58_a33 := Y52_a33.keep K53 (ninS (own_neL (by omega)) nin0)
  have Y59_a46 := Y46.keep K53 (ninS (own_neL (by omega)) nin0)
  show OwnDone p e below _ (T53.setTop (mkF m 66 #[.val (.ref a1), .val (.int vd)] []))
  refine OwnDone.go (A := (T53.setTop (mkF m 68 #[.val (.ref a1), .val (.int vd)] [(.int vd), (.ref a1)]))) (fun tQ kQ => ?_) ?_
  · refine XS.aloadN P53.here hx rfl (hb hby dinit_66) rfl rfl ?_
    show Steps p.tables e below (T53.setTop (mkF m 67 #[.val (.ref a1), .val (.int vd)] [(.ref a1)])) _
    refine XS.iloadN P53.here hx rfl (hb hby dinit_67) rfl ?_
    show Steps p.tables e below (T53.setTop (mkF m 68 #[.val (.ref a1), .val (.int vd)] [(.int vd), (.ref a1)])) _
    exact kQ
  show OwnDone p e below _ (T53.setTop (mkF m 68 #[.val (.ref a1), .val (.int vd)] [(.int vd), (.ref a1)]))
  refine own_putO (ty := .boolean) C P53 (hw _ (List.mem_of_getElem? (i := 32) rfl)) Via.refl O53 (own_laid0 hw) 6 rfl rfl (Or.inr ⟨(hw _ (List.mem_of_getElem? (i := 33) rfl)), rfl, rfl⟩) (hw _ (List.mem_of_getElem? (i := 7) rfl)) (by decide) (own_nb b_vd) (own_fb b_vd) (Or.inl (List.mem_of_getElem? (i := 0) rfl)) dinit_68 (vs' := [(.ref a2), (.ref a7), (.ref a14), (.ref a23), (.ref a33), (.ref a46), (.int vd), (.int (0 : Int32)), (.int (0 : Int32)), (.int (0 : Int32)), .null, .null]) rfl (fun T60 h60 P60 K60 O60 => ?_)
  have Y61_a2 := Y54_a2.keep K60 (ninS (own_neL (by omega)) nin0)
  have Y62_a7 := Y55_a7.keep K60 (ninS (own_neL (by omega)) nin0)
  have Y63_a14 := Y56_a14.keep K60 (ninS (own_neL (by omega)) nin0)
  have Y64_a23 := Y57_a23.keep K60 (ninS (own_neL (by omega)) nin0)
  have Y65_a33 := Y58_a33.keep K60 (ninS (own_neL (by omega)) nin0)
  have Y66_a46 := Y59_a46.keep K60 (ninS (own_neL (by omega)) nin0)
  show OwnDone p e below _ (T60.setTop (mkF m 71 #[.val (.ref a1), .val (.int vd)] []))
  refine own_retV C P60 dinit_71 (by decide) (by decide) ⟨rfl, _, _, _, _, _, _, _, _, _, _, _, _, O60, Y61_a2, Y62_a7, Y63_a14, Y64_a23, Y65_a33, Y66_a46, lt_a1_a2, lt_a2_a7, lt_a7_a14, lt_a14_a23, lt_a23_a33, lt_a33_a46, N33, N46, V2, V7, V46, ge_a2⟩
theorem dfa_0 : decode prog_95_method_5_code 0 = .ok (.aload_n 0, 1) := by decide +kernel
theorem dfa_1 : decode prog_95_method_5_code 1 = .ok (.getfield 49, 3) := by decide +kernel
theorem dfa_4 : decode prog_95_method_5_code 4 = .ok (.ifCond .ne 7, 3) := by decide +kernel
theorem dfa_7 : decode prog_95_method_5_code 7 = .ok (.aconst_null, 1) := by decide +kernel
theorem dfa_8 : decode prog_95_method_5_code 8 = .ok (.goto 16, 3) := by decide +kernel
theorem dfa_24 : decode prog_95_method_5_code 24 = .ok (.areturn, 1) := by decide +kernel
theorem pnfa : plainName "com/example/tidx/tidx/index/Run" = true := by first | (simp [plainName, overriddenIn]; done) | decide +kernel
theorem effa (m : MethodId) (r : Addr)  : entryFrame m #[(.ref r)] 1 = mkF m 0 #[.val (.ref r)] [] := by first | (simp [entryFrame, mkF, argsToLocals, Value.category]; done) | rfl
set_option maxRecDepth 65536 in
set_option maxHeartbeats 40000000 in
theorem rmfa (l : Launch) (Z : State) (a0 : Array Value) (hw : ∀ d ∈ tables_1, d.before a0 Z = true) (r : Addr) (aR aV aF aT aO aW : Addr) (vd ow sz : Int32) (h0 : Heap) (hE : Ext Z.heap h0)  (Ob : OwnObj Z h0 r "com/example/tidx/tidx/index/Run" own_lay0 [(.ref aR), (.ref aV), (.ref aF), (.ref aT), (.ref aO), (.ref aW), (.int vd), (.int (0 : Int32)), (.int ow), (.int sz), .null, .null]) :
    OwnMeets l (⟨"com/example/tidx/tidx/index/Run", "first", "()[Ljava/lang/Object;"⟩ : MethodName) prog_95_method_5_code 1 (some (.array (.object "java/lang/Object"))) ({ frames := 0, cells := 0, slots := 0, locals := 0 } : Room) Z [] #[(.ref r)] h0 (fun v h => v = some .null ∧ h0 = h) := by
  refine OwnMeets.of (plainFor_of_name pnfa) hE all0 ?_
  intro p e s m below meth c T C P
  have hx := C.1
  have hby := C.2.2.2.2.1
  rw [show entryFrame m #[(.ref r)] 1 = _ from effa m r]
  show OwnDone p e below _ (T.setTop (mkF m 0 #[.val (.ref r)] []))
  refine OwnDone.go (A := (T.setTop (mkF m 1 #[.val (.ref r)] [(.ref r)]))) (fun tQ kQ => ?_) ?_
  · refine XS.aloadN P.here hx rfl (hb hby dfa_0) rfl rfl ?_
    show Steps p.tables e below (T.setTop (mkF m 1 #[.val (.ref r)] [(.ref r)])) _
    exact kQ
  show OwnDone p e below _ (T.setTop (mkF m 1 #[.val (.ref r)] [(.ref r)]))
  refine own_getF C P (host := "") (Or.inl (hw _ (List.mem_of_getElem? (i := 39) rfl))) Via.refl (Ob.2 7 _ _ _ _ rfl rfl) dfa_1 (fun T1 P1 => ?_)
  show OwnDone p e below _ (T1.setTop (mkF m 4 #[.val (.ref r)] [(.int (0 : Int32))]))
  refine OwnDone.go (A := (T1.setTop (mkF m 7 #[.val (.ref r)] []))) (fun tQ kQ => XS.ifNo P1.here hx rfl (hb hby dfa_4) rfl (XT.i0_ne_f (by decide)) kQ) ?_
  show OwnDone p e below _ (T1.setTop (mkF m 7 #[.val (.ref r)] []))
  refine OwnDone.go (A := (T1.setTop (mkF m 24 #[.val (.ref r)] [.null]))) (fun tQ kQ => ?_) ?_
  · refine XS.aconstNull P1.here hx rfl (hb hby dfa_7) ?_
    show Steps p.tables e below (T1.setTop (mkF m 8 #[.val (.ref r)] [.null])) _
    refine XS.goto P1.here hx rfl (pc0 := 8) (pc' := 24) rfl (hb hby dfa_8) (by decide) (by decide) ?_
    show Steps p.tables e below (T1.setTop (mkF m 24 #[.val (.ref r)] [.null])) _
    exact kQ
  show OwnDone p e below _ (T1.setTop (mkF m 24 #[.val (.ref r)] [.null]))
  refine own_retA C P1 rfl rfl dfa_24 (by decide) (by decide) ⟨rfl, rfl⟩
theorem dfb_0 : decode prog_95_method_5_code 0 = .ok (.aload_n 0, 1) := by decide +kernel
theorem dfb_1 : decode prog_95_method_5_code 1 = .ok (.getfield 49, 3) := by decide +kernel
theorem dfb_4 : decode prog_95_method_5_code 4 = .ok (.ifCond .ne 7, 3) := by decide +kernel
theorem dfb_11 : decode prog_95_method_5_code 11 = .ok (.aload_n 0, 1) := by decide +kernel
theorem dfb_12 : decode prog_95_method_5_code 12 = .ok (.getfield 17, 3) := by decide +kernel
theorem dfb_15 : decode prog_95_method_5_code 15 = .ok (.iconst 0, 1) := by decide +kernel
theorem dfb_16 : decode prog_95_method_5_code 16 = .ok (.aaload, 1) := by decide +kernel
theorem dfb_17 : decode prog_95_method_5_code 17 = .ok (.aload_n 0, 1) := by decide +kernel
theorem dfb_18 : decode prog_95_method_5_code 18 = .ok (.getfield 21, 3) := by decide +kernel
theorem dfb_21 : decode prog_95_method_5_code 21 = .ok (.iconst 0, 1) := by decide +kernel
theorem dfb_22 : decode prog_95_method_5_code 22 = .ok (.iaload, 1) := by decide +kernel
theorem dfb_23 : decode prog_95_method_5_code 23 = .ok (.aaload, 1) := by decide +kernel
theorem dfb_24 : decode prog_95_method_5_code 24 = .ok (.areturn, 1) := by decide +kernel
theorem pnfb : plainName "com/example/tidx/tidx/index/Run" = true := by first | (simp [plainName, overriddenIn]; done) | decide +kernel
theorem effb (m : MethodId) (r : Addr)  : entryFrame m #[(.ref r)] 1 = mkF m 0 #[.val (.ref r)] [] := by first | (simp [entryFrame, mkF, argsToLocals, Value.category]; done) | rfl
set_option maxRecDepth 65536 in
set_option maxHeartbeats 40000000 in
theorem rmfb (l : Launch) (Z : State) (a0 : Array Value) (hw : ∀ d ∈ tables_1, d.before a0 Z = true) (r : Addr) (aR aV aF aT aO aW : Addr) (kV kF ke : ClassId) (vd sl ow sz : Int32) (vv ff es : List Value) (ea xa : Addr) (f : Int32) (h0 : Heap) (hE : Ext Z.heap h0)  (Ob : OwnObj Z h0 r "com/example/tidx/tidx/index/Run" own_lay0 [(.ref aR), (.ref aV), (.ref aF), (.ref aT), (.ref aO), (.ref aW), (.int vd), (.int sl), (.int ow), (.int sz), .null, .null]) (YaV : OwnAry Z h0 aV kV (.array (.array (.object "java/lang/Object"))) vv) (YaF : OwnAry Z h0 aF kF .int ff) (Ye : OwnAry Z h0 ea ke (.array (.object "java/lang/Object")) es) (nsl : ¬ sl = 0) (hv0 : vv[0]? = some (.ref ea)) (hf0 : ff[0]? = some (.int f)) (hfn : ¬ f < 0) (hxa : es[f.toNatClampNeg]? = some (.ref xa)) :
    OwnMeets l (⟨"com/example/tidx/tidx/index/Run", "first", "()[Ljava/lang/Object;"⟩ : MethodName) prog_95_method_5_code 1 (some (.array (.object "java/lang/Object"))) ({ frames := 0, cells := 0, slots := 0, locals := 0 } : Room) Z [] #[(.ref r)] h0 (fun v h => v = some (.ref xa) ∧ h0 = h) := by
  refine OwnMeets.of (plainFor_of_name pnfb) hE all0 ?_
  intro p e s m below meth c T C P
  have hx := C.1
  have hby := C.2.2.2.2.1
  rw [show entryFrame m #[(.ref r)] 1 = _ from effb m r]
  show OwnDone p e below _ (T.setTop (mkF m 0 #[.val (.ref r)] []))
  refine OwnDone.go (A := (T.setTop (mkF m 1 #[.val (.ref r)] [(.ref r)]))) (fun tQ kQ => ?_) ?_
  · refine XS.aloadN P.here hx rfl (hb hby dfb_0) rfl rfl ?_
    show Steps p.tables e below (T.setTop (mkF m 1 #[.val (.ref r)] [(.ref r)])) _
    exact kQ
  show OwnDone p e below _ (T.setTop (mkF m 1 #[.val (.ref r)] [(.ref r)]))
  refine own_getF C P (host := "") (Or.inl (hw _ (List.mem_of_getElem? (i := 39) rfl))) Via.refl (Ob.2 7 _ _ _ _ rfl rfl) dfb_1 (fun T1 P1 => ?_)
  show OwnDone p e below _ (T1.setTop (mkF m 4 #[.val (.ref r)] [(.int sl)]))
  refine OwnDone.go (A := (T1.setTop (mkF m 11 #[.val (.ref r)] []))) (fun tQ kQ => XS.ifYes P1.here hx rfl (pc0 := 4) (pc' := 11) rfl (hb hby dfb_4) rfl (XT.i0_ne_t nsl) (by decide) (by decide) kQ) ?_
  show OwnDone p e below _ (T1.setTop (mkF m 11 #[.val (.ref r)] []))
  refine OwnDone.go (A := (T1.setTop (mkF m 12 #[.val (.ref r)] [(.ref r)]))) (fun tQ kQ => ?_) ?_
  · refine XS.aloadN P1.here hx rfl (hb hby dfb_11) rfl rfl ?_
    show Steps p.tables e below (T1.setTop (mkF m 12 #[.val (.ref r)] [(.ref r)])) _
    exact kQ
  show OwnDone p e below _ (T1.setTop (mkF m 12 #[.val (.ref r)] [(.ref r)]))
  refine own_getF C P1 (host := "") (Or.inl (hw _ (List.mem_of_getElem? (i := 21) rfl))) Via.refl (Ob.2 1 _ _ _ _ rfl rfl) dfb_12 (fun T2 P2 => ?_)
  show OwnDone p e below _ (T2.setTop (mkF m 15 #[.val (.ref r)] [(.ref aV)]))
  refine OwnDone.go (A := (T2.setTop (mkF m 18 #[.val (.ref r)] [(.ref r), (.ref ea)]))) (fun tQ kQ => ?_) ?_
  · refine XS.iconst P2.here hx rfl (hb hby dfb_15) ?_
    show Steps p.tables e below (T2.setTop (mkF m 16 #[.val (.ref r)] [(.int (0 : Int32)), (.ref aV)])) _
    refine own_aaload C P2 YaV rfl (by decide) hv0 dfb_16 ?_
    show Steps p.tables e below (T2.setTop (mkF m 17 #[.val (.ref r)] [(.ref ea)])) _
    refine XS.aloadN P2.here hx rfl (hb hby dfb_17) rfl rfl ?_
    show Steps p.tables e below (T2.setTop (mkF m 18 #[.val (.ref r)] [(.ref r), (.ref ea)])) _
    exact kQ
  show OwnDone p e below _ (T2.setTop (mkF m 18 #[.val (.ref r)] [(.ref r), (.ref ea)]))
  refine own_getF C P2 (host := "") (Or.inl (hw _ (List.mem_of_getElem? (i := 23) rfl))) Via.refl (Ob.2 2 _ _ _ _ rfl rfl) dfb_18 (fun T3 P3 => ?_)
  show OwnDone p e below _ (T3.setTop (mkF m 21 #[.val (.ref r)] [(.ref aF), (.ref ea)]))
  refine OwnDone.go (A := (T3.setTop (mkF m 24 #[.val (.ref r)] [(.ref xa)]))) (fun tQ kQ => ?_) ?_
  · refine XS.iconst P3.here hx rfl (hb hby dfb_21) ?_
    show Steps p.tables e below (T3.setTop (mkF m 22 #[.val (.ref r)] [(.int (0 : Int32)), (.ref aF), (.ref ea)])) _
    refine own_iaload C P3 YaF (by decide) hf0 dfb_22 ?_
    show Steps p.tables e below (T3.setTop (mkF m 23 #[.val (.ref r)] [(.int f), (.ref ea)])) _
    refine own_aaload C P3 Ye rfl hfn hxa dfb_23 ?_
    show Steps p.tables e below (T3.setTop (mkF m 24 #[.val (.ref r)] [(.ref xa)])) _
    exact kQ
  show OwnDone p e below _ (T3.setTop (mkF m 24 #[.val (.ref r)] [(.ref xa)]))
  refine own_retA C P3 rfl rfl dfb_24 (by decide) (by decide) ⟨rfl, rfl⟩
theorem dsl_0 : decode prog_95_method_13_code 0 = .ok (.aload_n 0, 1) := by decide +kernel
theorem dsl_1 : decode prog_95_method_13_code 1 = .ok (.getfield 49, 3) := by decide +kernel
theorem dsl_4 : decode prog_95_method_13_code 4 = .ok (.aload_n 0, 1) := by decide +kernel
theorem dsl_5 : decode prog_95_method_13_code 5 = .ok (.getfield 9, 3) := by decide +kernel
theorem dsl_8 : decode prog_95_method_13_code 8 = .ok (.arraylength, 1) := by decide +kernel
theorem dsl_9 : decode prog_95_method_13_code 9 = .ok (.if_icmp .ne 69, 3) := by decide +kernel
theorem dsl_78 : decode prog_95_method_13_code 78 = .ok (.aload_n 0, 1) := by decide +kernel
theorem dsl_79 : decode prog_95_method_13_code 79 = .ok (.getfield 9, 3) := by decide +kernel
theorem dsl_82 : decode prog_95_method_13_code 82 = .ok (.aload_n 0, 1) := by decide +kernel
theorem dsl_83 : decode prog_95_method_13_code 83 = .ok (.getfield 49, 3) := by decide +kernel
theorem dsl_86 : decode prog_95_method_13_code 86 = .ok (.aload_n 1, 1) := by decide +kernel
theorem dsl_87 : decode prog_95_method_13_code 87 = .ok (.aastore, 1) := by decide +kernel
theorem dsl_88 : decode prog_95_method_13_code 88 = .ok (.aload_n 0, 1) := by decide +kernel
theorem dsl_89 : decode prog_95_method_13_code 89 = .ok (.getfield 17, 3) := by decide +kernel
theorem dsl_92 : decode prog_95_method_13_code 92 = .ok (.aload_n 0, 1) := by decide +kernel
theorem dsl_93 : decode prog_95_method_13_code 93 = .ok (.getfield 49, 3) := by decide +kernel
theorem dsl_96 : decode prog_95_method_13_code 96 = .ok (.aload_n 2, 1) := by decide +kernel
theorem dsl_97 : decode prog_95_method_13_code 97 = .ok (.aastore, 1) := by decide +kernel
theorem dsl_98 : decode prog_95_method_13_code 98 = .ok (.aload_n 0, 1) := by decide +kernel
theorem dsl_99 : decode prog_95_method_13_code 99 = .ok (.getfield 21, 3) := by decide +kernel
theorem dsl_102 : decode prog_95_method_13_code 102 = .ok (.aload_n 0, 1) := by decide +kernel
theorem dsl_103 : decode prog_95_method_13_code 103 = .ok (.getfield 49, 3) := by decide +kernel
theorem dsl_106 : decode prog_95_method_13_code 106 = .ok (.iload_n 3, 1) := by decide +kernel
theorem dsl_107 : decode prog_95_method_13_code 107 = .ok (.iastore, 1) := by decide +kernel
theorem dsl_108 : decode prog_95_method_13_code 108 = .ok (.aload_n 0, 1) := by decide +kernel
theorem dsl_109 : decode prog_95_method_13_code 109 = .ok (.getfield 24, 3) := by decide +kernel
theorem dsl_112 : decode prog_95_method_13_code 112 = .ok (.aload_n 0, 1) := by decide +kernel
theorem dsl_113 : decode prog_95_method_13_code 113 = .ok (.getfield 49, 3) := by decide +kernel
theorem dsl_116 : decode prog_95_method_13_code 116 = .ok (.iload 4, 2) := by decide +kernel
theorem dsl_118 : decode prog_95_method_13_code 118 = .ok (.iastore, 1) := by decide +kernel
theorem dsl_119 : decode prog_95_method_13_code 119 = .ok (.aload_n 0, 1) := by decide +kernel
theorem dsl_120 : decode prog_95_method_13_code 120 = .ok (.dup, 1) := by decide +kernel
theorem dsl_121 : decode prog_95_method_13_code 121 = .ok (.getfield 49, 3) := by decide +kernel
theorem dsl_124 : decode prog_95_method_13_code 124 = .ok (.iconst 1, 1) := by decide +kernel
theorem dsl_125 : decode prog_95_method_13_code 125 = .ok (.iadd, 1) := by decide +kernel
theorem dsl_126 : decode prog_95_method_13_code 126 = .ok (.putfield 49, 3) := by decide +kernel
theorem dsl_129 : decode prog_95_method_13_code 129 = .ok (.return_, 1) := by decide +kernel
theorem pnsl : plainName "com/example/tidx/tidx/index/Run" = true := by first | (simp [plainName, overriddenIn]; done) | decide +kernel
theorem efsl (m : MethodId) (r : Addr) (na : Addr) (ea : Addr) (x3 : Int32) (x4 : Int32)  : entryFrame m #[(.ref r), (.ref na), (.ref ea), (.int x3), (.int x4)] 6 = mkF m 0 #[.val (.ref r), .val (.ref na), .val (.ref ea), .val (.int x3), .val (.int x4), .unset] [] := by first | (simp [entryFrame, mkF, argsToLocals, Value.category]; done) | rfl
set_option maxRecDepth 65536 in
set_option maxHeartbeats 40000000 in
theorem rmsl (l : Launch) (Z : State) (a0 : Array Value) (hw : ∀ d ∈ tables_1, d.before a0 Z = true) (r : Addr) (na : Addr) (ea : Addr) (x3 : Int32) (x4 : Int32) (aR aV aF aT aO aW : Addr) (kR kV kF kT : ClassId) (vd sl ow sz : Int32) (rr vv ff tt : List Value) (h0 : Heap) (hE : Ext Z.heap h0) (g_r : Z.heap.size ≤ r) (g_aR : Z.heap.size ≤ aR) (g_aV : Z.heap.size ≤ aV) (g_aF : Z.heap.size ≤ aF) (g_aT : Z.heap.size ≤ aT) (Ob : OwnObj Z h0 r "com/example/tidx/tidx/index/Run" own_lay0 [(.ref aR), (.ref aV), (.ref aF), (.ref aT), (.ref aO), (.ref aW), (.int vd), (.int sl), (.int ow), (.int sz), .null, .null]) (YaR : OwnAry Z h0 aR kR (.array .int) rr) (lR : rr.length = 4) (YaV : OwnAry Z h0 aV kV (.array (.array (.object "java/lang/Object"))) vv) (lV : vv.length = 4) (YaF : OwnAry Z h0 aF kF .int ff) (lF : ff.length = 4) (YaT : OwnAry Z h0 aT kT .int tt) (lT : tt.length = 4) (lt0 : @LT.lt Nat _ r aR) (lt1 : @LT.lt Nat _ aR aV) (lt2 : @LT.lt Nat _ aV aF) (lt3 : @LT.lt Nat _ aF aT) (s1 : ¬ sl < 0) (s2 : sl.toNatClampNeg < 4) (In : Ins Z h0 na "[I" true) (Ie : Ins Z h0 ea "[[Ljava/lang/Object;" true) (VR : OvrA Z kR .int "[I") (VV : OvrA Z kV (.array (.object "java/lang/Object")) "[[Ljava/lang/Object;") :
    OwnMeets l (⟨"com/example/tidx/tidx/index/Run", "slice", "([I[[Ljava/lang/Object;II)V"⟩ : MethodName) prog_95_method_13_code 6 none ({ frames := 0, cells := 0, slots := 0, locals := 0 } : Room) Z [r, aR, aV, aF, aT] #[(.ref r), (.ref na), (.ref ea), (.int x3), (.int x4)] h0 (fun v h => v = none ∧ OwnObj Z h r "com/example/tidx/tidx/index/Run" own_lay0 [(.ref aR), (.ref aV), (.ref aF), (.ref aT), (.ref aO), (.ref aW), (.int vd), (.int (sl + (1 : Int32))), (.int ow), (.int sz), .null, .null] ∧ OwnAry Z h aR kR (.array .int) (rr.set (sl).toNatClampNeg (.ref na)) ∧ OwnAry Z h aV kV (.array (.array (.object "java/lang/Object"))) (vv.set (sl).toNatClampNeg (.ref ea)) ∧ OwnAry Z h aF kF .int (ff.set (sl).toNatClampNeg (.int x3)) ∧ OwnAry Z h aT kT .int (tt.set (sl).toNatClampNeg (.int x4))) := by
  refine OwnMeets.of (plainFor_of_name pnsl) hE (allS g_r (allS g_aR (allS g_aV (allS g_aF (allS g_aT all0))))) ?_
  intro p e s m below meth c T C P
  have hx := C.1
  have hby := C.2.2.2.2.1
  rw [show entryFrame m #[(.ref r), (.ref na), (.ref ea), (.int x3), (.int x4)] 6 = _ from efsl m r na ea x3 x4]
  show OwnDone p e below _ (T.setTop (mkF m 0 #[.val (.ref r), .val (.ref na), .val (.ref ea), .val (.int x3), .val (.int x4), .unset] []))
  refine OwnDone.go (A := (T.setTop (mkF m 1 #[.val (.ref r), .val (.ref na), .val (.ref ea), .val (.int x3), .val (.int x4), .unset] [(.ref r)]))) (fun tQ kQ => ?_) ?_
  · refine XS.aloadN P.here hx rfl (hb hby dsl_0) rfl rfl ?_
    show Steps p.tables e below (T.setTop (mkF m 1 #[.val (.ref r), .val (.ref na), .val (.ref ea), .val (.int x3), .val (.int x4), .unset] [(.ref r)])) _
    exact kQ
  show OwnDone p e below _ (T.setTop (mkF m 1 #[.val (.ref r), .val (.ref na), .val (.ref ea), .val (.int x3), .val (.int x4), .unset] [(.ref r)]))
  refine own_getF C P (host := "") (Or.inl (hw _ (List.mem_of_getElem? (i := 39) rfl))) Via.refl (Ob.2 7 _ _ _ _ rfl rfl) dsl_1 (fun T1 P1 => ?_)
  show OwnDone p e below _ (T1.setTop (mkF m 4 #[.val (.ref r), .val (.ref na), .val (.ref ea), .val (.int x3), .val (.int x4), .unset] [(.int sl)]))
  refine OwnDone.go (A := (T1.setTop (mkF m 5 #[.val (.ref r), .val (.ref na), .val (.ref ea), .val (.int x3), .val (.int x4), .unset] [(.ref r), (.int sl)]))) (fun tQ kQ => ?_) ?_
  · refine XS.aloadN P1.here hx rfl (hb hby dsl_4) rfl rfl ?_
    show Steps p.tables e below (T1.setTop (mkF m 5 #[.val (.ref r), .val (.ref na), .val (.ref ea), .val (.int x3), .val (.int x4), .unset] [(.ref r), (.int sl)])) _
    exact kQ
  show OwnDone p e below _ (T1.setTop (mkF m 5 #[.val (.ref r), .val (.ref na), .val (.ref ea), .val (.int x3), .val (.int x4), .unset] [(.ref r), (.int sl)]))
  refine own_getF C P1 (host := "") (Or.inl (hw _ (List.mem_of_getElem? (i := 17) rfl))) Via.refl (Ob.2 0 _ _ _ _ rfl rfl) dsl_5 (fun T2 P2 => ?_)
  show OwnDone p e below _ (T2.setTop (mkF m 8 #[.val (.ref r), .val (.ref na), .val (.ref ea), .val (.int x3), .val (.int x4), .unset] [(.ref aR), (.int sl)]))
  refine OwnDone.go (A := (T2.setTop (mkF m 9 #[.val (.ref r), .val (.ref na), .val (.ref ea), .val (.int x3), .val (.int x4), .unset] [(.int (4 : Int32)), (.int sl)]))) (fun tQ kQ => ?_) ?_
  · refine own_alenN C P2 YaR lR dsl_8 ?_
    show Steps p.tables e below (T2.setTop (mkF m 9 #[.val (.ref r), .val (.ref na), .val (.ref ea), .val (.int x3), .val (.int x4), .unset] [(.int (4 : Int32)), (.int sl)])) _
    exact kQ
  show OwnDone p e below _ (T2.setTop (mkF m 9 #[.val (.ref r), .val (.ref na), .val (.ref ea), .val (.int x3), .val (.int x4), .unset] [(.int (4 : Int32)), (.int sl)]))
  refine OwnDone.go (A := (T2.setTop (mkF m 78 #[.val (.ref r), .val (.ref na), .val (.ref ea), .val (.int x3), .val (.int x4), .unset] []))) (fun tQ kQ => XS.icmpYes P2.here hx rfl (pc0 := 9) (pc' := 78) rfl (hb hby dsl_9) rfl (XT.ii_ne_t (own_not4 s2)) (by decide) (by decide) kQ) ?_
  show OwnDone p e below _ (T2.setTop (mkF m 78 #[.val (.ref r), .val (.ref na), .val (.ref ea), .val (.int x3), .val (.int x4), .unset] []))
  refine OwnDone.go (A := (T2.setTop (mkF m 79 #[.val (.ref r), .val (.ref na), .val (.ref ea), .val (.int x3), .val (.int x4), .unset] [(.ref r)]))) (fun tQ kQ => ?_) ?_
  · refine XS.aloadN P2.here hx rfl (hb hby dsl_78) rfl rfl ?_
    show Steps p.tables e below (T2.setTop (mkF m 79 #[.val (.ref r), .val (.ref na), .val (.ref ea), .val (.int x3), .val (.int x4), .unset] [(.ref r)])) _
    exact kQ
  show OwnDone p e below _ (T2.setTop (mkF m 79 #[.val (.ref r), .val (.ref na), .val (.ref ea), .val (.int x3), .val (.int x4), .unset] [(.ref r)]))
  refine own_getF C P2 (host := "") (Or.inl (hw _ (List.mem_of_getElem? (i := 17) rfl))) Via.refl (Ob.2 0 _ _ _ _ rfl rfl) dsl_79 (fun T3 P3 => ?_)
  show OwnDone p e below _ (T3.setTop (mkF m 82 #[.val (.ref r), .val (.ref na), .val (.ref ea), .val (.int x3), .val (.int x4), .unset] [(.ref aR)]))
  refine OwnDone.go (A := (T3.setTop (mkF m 83 #[.val (.ref r), .val (.ref na), .val (.ref ea), .val (.int x3), .val (.int x4), .unset] [(.ref r), (.ref aR)]))) (fun tQ kQ => ?_) ?_
  · refine XS.aloadN P3.here hx rfl (hb hby dsl_82) rfl rfl ?_
    show Steps p.tables e below (T3.setTop (mkF m 83 #[.val (.ref r), .val (.ref na), .val (.ref ea), .val (.int x3), .val (.int x4), .unset] [(.ref r), (.ref aR)])) _
    exact kQ
  show OwnDone p e below _ (T3.setTop (mkF m 83 #[.val (.ref r), .val (.ref na), .val (.ref ea), .val (.int x3), .val (.int x4), .unset] [(.ref r), (.ref aR)]))
  refine own_getF C P3 (host := "") (Or.inl (hw _ (List.mem_of_getElem? (i := 39) rfl))) Via.refl (Ob.2 7 _ _ _ _ rfl rfl) dsl_83 (fun T4 P4 => ?_)
  show OwnDone p e below _ (T4.setTop (mkF m 86 #[.val (.ref r), .val (.ref na), .val (.ref ea), .val (.int x3), .val (.int x4), .unset] [(.int sl), (.ref aR)]))
  refine OwnDone.go (A := (T4.setTop (mkF m 87 #[.val (.ref r), .val (.ref na), .val (.ref ea), .val (.int x3), .val (.int x4), .unset] [(.ref na), (.int sl), (.ref aR)]))) (fun tQ kQ => ?_) ?_
  · refine XS.aloadN P4.here hx rfl (hb hby dsl_86) rfl rfl ?_
    show Steps p.tables e below (T4.setTop (mkF m 87 #[.val (.ref r), .val (.ref na), .val (.ref ea), .val (.int x3), .val (.int x4), .unset] [(.ref na), (.int sl), (.ref aR)])) _
    exact kQ
  show OwnDone p e below _ (T4.setTop (mkF m 87 #[.val (.ref r), .val (.ref na), .val (.ref ea), .val (.int x3), .val (.int x4), .unset] [(.ref na), (.int sl), (.ref aR)]))
  refine own_aastore C P4 YaR rfl s1 (by rw [lR]; exact s2) (YaR.stoA VR In) (Or.inl (List.mem_of_getElem? (i := 1) rfl)) dsl_87 (vs' := (rr.set (sl).toNatClampNeg (.ref na))) rfl (fun T5 h5 P5 K5 Y5 => ?_)
  have l5 : (rr.set (sl).toNatClampNeg (.ref na)).length = 4 := by rw [List.length_set]; exact lR
  have I6_na := own_insK In K5
  have I7_ea := own_insK Ie K5
  have O8_r := Ob.keep K5 (ninS (own_neL (by omega)) nin0)
  have Y9_aV := YaV.keep K5 (ninS (own_neL (by omega)) nin0)
  have Y10_aF := YaF.keep K5 (ninS (own_neL (by omega)) nin0)
  have Y11_aT := YaT.keep K5 (ninS (own_neL (by omega)) nin0)
  show OwnDone p e below _ (T5.setTop (mkF m 88 #[.val (.ref r), .val (.ref na), .val (.ref ea), .val (.int x3), .val (.int x4), .unset] []))
  refine OwnDone.go (A := (T5.setTop (mkF m 89 #[.val (.ref r), .val (.ref na), .val (.ref ea), .val (.int x3), .val (.int x4), .unset] [(.ref r)]))) (fun tQ kQ => ?_) ?_
  · refine XS.aloadN P5.here hx rfl (hb hby dsl_88) rfl rfl ?_
    show Steps p.tables e below (T5.setTop (mkF m 89 #[.val (.ref r), .val (.ref na), .val (.ref ea), .val (.int x3), .val (.int x4), .unset] [(.ref r)])) _
    exact kQ
  show OwnDone p e below _ (T5.setTop (mkF m 89 #[.val (.ref r), .val (.ref na), .val (.ref ea), .val (.int x3), .val (.int x4), .unset] [(.ref r)]))
  refine own_getF C P5 (host := "") (Or.inl (hw _ (List.mem_of_getElem? (i := 21) rfl))) Via.refl (O8_r.2 1 _ _ _ _ rfl rfl) dsl_89 (fun T12 P12 => ?_)
  show OwnDone p e below _ (T12.setTop (mkF m 92 #[.val (.ref r), .val (.ref na), .val (.ref ea), .val (.int x3), .val (.int x4), .unset] [(.ref aV)]))
  refine OwnDone.go (A := (T12.setTop (mkF m 93 #[.val (.ref r), .val (.ref na), .val (.ref ea), .val (.int x3), .val (.int x4), .unset] [(.ref r), (.ref aV)]))) (fun tQ kQ => ?_) ?_
  · refine XS.aloadN P12.here hx rfl (hb hby dsl_92) rfl rfl ?_
    show Steps p.tables e below (T12.setTop (mkF m 93 #[.val (.ref r), .val (.ref na), .val (.ref ea), .val (.int x3), .val (.int x4), .unset] [(.ref r), (.ref aV)])) _
    exact kQ
  show OwnDone p e below _ (T12.setTop (mkF m 93 #[.val (.ref r), .val (.ref na), .val (.ref ea), .val (.int x3), .val (.int x4), .unset] [(.ref r), (.ref aV)]))
  refine own_getF C P12 (host := "") (Or.inl (hw _ (List.mem_of_getElem? (i := 39) rfl))) Via.refl (O8_r.2 7 _ _ _ _ rfl rfl) dsl_93 (fun T13 P13 => ?_)
  show OwnDone p e below _ (T13.setTop (mkF m 96 #[.val (.ref r), .val (.ref na), .val (.ref ea), .val (.int x3), .val (.int x4), .unset] [(.int sl), (.ref aV)]))
  refine OwnDone.go (A := (T13.setTop (mkF m 97 #[.val (.ref r), .val (.ref na), .val (.ref ea), .val (.int x3), .val (.int x4), .unset] [(.ref ea), (.int sl), (.ref aV)]))) (fun tQ kQ => ?_) ?_
  · refine XS.aloadN P13.here hx rfl (hb hby dsl_96) rfl rfl ?_
    show Steps p.tables e below (T13.setTop (mkF m 97 #[.val (.ref r), .val (.ref na), .val (.ref ea), .val (.int x3), .val (.int x4), .unset] [(.ref ea), (.int sl), (.ref aV)])) _
    exact kQ
  show OwnDone p e below _ (T13.setTop (mkF m 97 #[.val (.ref r), .val (.ref na), .val (.ref ea), .val (.int x3), .val (.int x4), .unset] [(.ref ea), (.int sl), (.ref aV)]))
  refine own_aastore C P13 Y9_aV rfl s1 (by rw [lV]; exact s2) (Y9_aV.stoA VV I7_ea) (Or.inl (List.mem_of_getElem? (i := 2) rfl)) dsl_97 (vs' := (vv.set (sl).toNatClampNeg (.ref ea))) rfl (fun T14 h14 P14 K14 Y14 => ?_)
  have l14 : (vv.set (sl).toNatClampNeg (.ref ea)).length = 4 := by rw [List.length_set]; exact lV
  have I15_na := own_insK I6_na K14
  have I16_ea := own_insK I7_ea K14
  have O17_r := O8_r.keep K14 (ninS (own_neL (by omega)) nin0)
  have Y18_aR := Y5.keep K14 (ninS (own_neL (by omega)) nin0)
  have Y19_aF := Y10_aF.keep K14 (ninS (own_neL (by omega)) nin0)
  have Y20_aT := Y11_aT.keep K14 (ninS (own_neL (by omega)) nin0)
  show OwnDone p e below _ (T14.setTop (mkF m 98 #[.val (.ref r), .val (.ref na), .val (.ref ea), .val (.int x3), .val (.int x4), .unset] []))
  refine OwnDone.go (A := (T14.setTop (mkF m 99 #[.val (.ref r), .val (.ref na), .val (.ref ea), .val (.int x3), .val (.int x4), .unset] [(.ref r)]))) (fun tQ kQ => ?_) ?_
  · refine XS.aloadN P14.here hx rfl (hb hby dsl_98) rfl rfl ?_
    show Steps p.tables e below (T14.setTop (mkF m 99 #[.val (.ref r), .val (.ref na), .val (.ref ea), .val (.int x3), .val (.int x4), .unset] [(.ref r)])) _
    exact kQ
  show OwnDone p e below _ (T14.setTop (mkF m 99 #[.val (.ref r), .val (.ref na), .val (.ref ea), .val (.int x3), .val (.int x4), .unset] [(.ref r)]))
  refine own_getF C P14 (host := "") (Or.inl (hw _ (List.mem_of_getElem? (i := 23) rfl))) Via.refl (O17_r.2 2 _ _ _ _ rfl rfl) dsl_99 (fun T21 P21 => ?_)
  show OwnDone p e below _ (T21.setTop (mkF m 102 #[.val (.ref r), .val (.ref na), .val (.ref ea), .val (.int x3), .val (.int x4), .unset] [(.ref aF)]))
  refine OwnDone.go (A := (T21.setTop (mkF m 103 #[.val (.ref r), .val (.ref na), .val (.ref ea), .val (.int x3), .val (.int x4), .unset] [(.ref r), (.ref aF)]))) (fun tQ kQ => ?_) ?_
  · refine XS.aloadN P21.here hx rfl (hb hby dsl_102) rfl rfl ?_
    show Steps p.tables e below (T21.setTop (mkF m 103 #[.val (.ref r), .val (.ref na), .val (.ref ea), .val (.int x3), .val (.int x4), .unset] [(.ref r), (.ref aF)])) _
    exact kQ
  show OwnDone p e below _ (T21.setTop (mkF m 103 #[.val (.ref r), .val (.ref na), .val (.ref ea), .val (.int x3), .val (.int x4), .unset] [(.ref r), (.ref aF)]))
  refine own_getF C P21 (host := "") (Or.inl (hw _ (List.mem_of_getElem? (i := 39) rfl))) Via.refl (O17_r.2 7 _ _ _ _ rfl rfl) dsl_103 (fun T22 P22 => ?_)
  show OwnDone p e below _ (T22.setTop (mkF m 106 #[.val (.ref r), .val (.ref na), .val (.ref ea), .val (.int x3), .val (.int x4), .unset] [(.int sl), (.ref aF)]))
  refine OwnDone.go (A := (T22.setTop (mkF m 107 #[.val (.ref r), .val (.ref na), .val (.ref ea), .val (.int x3), .val (.int x4), .unset] [(.int x3), (.int sl), (.ref aF)]))) (fun tQ kQ => ?_) ?_
  · refine XS.iloadN P22.here hx rfl (hb hby dsl_106) rfl ?_
    show Steps p.tables e below (T22.setTop (mkF m 107 #[.val (.ref r), .val (.ref na), .val (.ref ea), .val (.int x3), .val (.int x4), .unset] [(.int x3), (.int sl), (.ref aF)])) _
    exact kQ
  show OwnDone p e below _ (T22.setTop (mkF m 107 #[.val (.ref r), .val (.ref na), .val (.ref ea), .val (.int x3), .val (.int x4), .unset] [(.int x3), (.int sl), (.ref aF)]))
  refine own_iastore C P22 Y19_aF s1 (by rw [lF]; exact s2) (Or.inl (List.mem_of_getElem? (i := 3) rfl)) dsl_107 (vs' := (ff.set (sl).toNatClampNeg (.int x3))) rfl (fun T23 h23 P23 K23 Y23 => ?_)
  have l23 : (ff.set (sl).toNatClampNeg (.int x3)).length = 4 := by rw [List.length_set]; exact lF
  have I24_na := own_insK I15_na K23
  have I25_ea := own_insK I16_ea K23
  have O26_r := O17_r.keep K23 (ninS (own_neL (by omega)) nin0)
  have Y27_aR := Y18_aR.keep K23 (ninS (own_neL (by omega)) nin0)
  have Y28_aV := Y14.keep K23 (ninS (own_neL (by omega)) nin0)
  have Y29_aT := Y20_aT.keep K23 (ninS (own_neL (by omega)) nin0)
  show OwnDone p e below _ (T23.setTop (mkF m 108 #[.val (.ref r), .val (.ref na), .val (.ref ea), .val (.int x3), .val (.int x4), .unset] []))
  refine OwnDone.go (A := (T23.setTop (mkF m 109 #[.val (.ref r), .val (.ref na), .val (.ref ea), .val (.int x3), .val (.int x4), .unset] [(.ref r)]))) (fun tQ kQ => ?_) ?_
  · refine XS.aloadN P23.here hx rfl (hb hby dsl_108) rfl rfl ?_
    show Steps p.tables e below (T23.setTop (mkF m 109 #[.val (.ref r), .val (.ref na), .val (.ref ea), .val (.int x3), .val (.int x4), .unset] [(.ref r)])) _
    exact kQ
  show OwnDone p e below _ (T23.setTop (mkF m 109 #[.val (.ref r), .val (.ref na), .val (.ref ea), .val (.int x3), .val (.int x4), .unset] [(.ref r)]))
  refine own_getF C P23 (host := "") (Or.inl (hw _ (List.mem_of_getElem? (i := 25) rfl))) Via.refl (O26_r.2 3 _ _ _ _ rfl rfl) dsl_109 (fun T30 P30 => ?_)
  show OwnDone p e below _ (T30.setTop (mkF m 112 #[.val (.ref r), .val (.ref na), .val (.ref ea), .val (.int x3), .val (.int x4), .unset] [(.ref aT)]))
  refine OwnDone.go (A := (T30.setTop (mkF m 113 #[.val (.ref r), .val (.ref na), .val (.ref ea), .val (.int x3), .val (.int x4), .unset] [(.ref r), (.ref aT)]))) (fun tQ kQ => ?_) ?_
  · refine XS.aloadN P30.here hx rfl (hb hby dsl_112) rfl rfl ?_
    show Steps p.tables e below (T30.setTop (mkF m 113 #[.val (.ref r), .val (.ref na), .val (.ref ea), .val (.int x3), .val (.int x4), .unset] [(.ref r), (.ref aT)])) _
    exact kQ
  show OwnDone p e below _ (T30.setTop (mkF m 113 #[.val (.ref r), .val (.ref na), .val (.ref ea), .val (.int x3), .val (.int x4), .unset] [(.ref r), (.ref aT)]))
  refine own_getF C P30 (host := "") (Or.inl (hw _ (List.mem_of_getElem? (i := 39) rfl))) Via.refl (O26_r.2 7 _ _ _ _ rfl rfl) dsl_113 (fun T31 P31 => ?_)
  show OwnDone p e below _ (T31.setTop (mkF m 116 #[.val (.ref r), .val (.ref na), .val (.ref ea), .val (.int x3), .val (.int x4), .unset] [(.int sl), (.ref aT)]))
  refine OwnDone.go (A := (T31.setTop (mkF m 118 #[.val (.ref r), .val (.ref na), .val (.ref ea), .val (.int x3), .val (.int x4), .unset] [(.int x4), (.int sl), (.ref aT)]))) (fun tQ kQ => ?_) ?_
  · refine XS.iload P31.here hx rfl (hb hby dsl_116) rfl ?_
    show Steps p.tables e below (T31.setTop (mkF m 118 #[.val (.ref r), .val (.ref na), .val (.ref ea), .val (.int x3), .val (.int x4), .unset] [(.int x4), (.int sl), (.ref aT)])) _
    exact kQ
  show OwnDone p e below _ (T31.setTop (mkF m 118 #[.val (.ref r), .val (.ref na), .val (.ref ea), .val (.int x3), .val (.int x4), .unset] [(.int x4), (.int sl), (.ref aT)]))
  refine own_iastore C P31 Y29_aT s1 (by rw [lT]; exact s2) (Or.inl (List.mem_of_getElem? (i := 4) rfl)) dsl_118 (vs' := (tt.set (sl).toNatClampNeg (.int x4))) rfl (fun T32 h32 P32 K32 Y32 => ?_)
  have l32 : (tt.set (sl).toNatClampNeg (.int x4)).length = 4 := by rw [List.length_set]; exact lT
  have I33_na := own_insK I24_na K32
  have I34_ea := own_insK I25_ea K32
  have O35_r := O26_r.keep K32 (ninS (own_neL (by omega)) nin0)
  have Y36_aR := Y27_aR.keep K32 (ninS (own_neL (by omega)) nin0)
  have Y37_aV := Y28_aV.keep K32 (ninS (own_neL (by omega)) nin0)
  have Y38_aF := Y23.keep K32 (ninS (own_neL (by omega)) nin0)
  show OwnDone p e below _ (T32.setTop (mkF m 119 #[.val (.ref r), .val (.ref na), .val (.ref ea), .val (.int x3), .val (.int x4), .unset] []))
  refine OwnDone.go (A := (T32.setTop (mkF m 121 #[.val (.ref r), .val (.ref na), .val (.ref ea), .val (.int x3), .val (.int x4), .unset] [(.ref r), (.ref r)]))) (fun tQ kQ => ?_) ?_
  · refine XS.aloadN P32.here hx rfl (hb hby dsl_119) rfl rfl ?_
    show Steps p.tables e below (T32.setTop (mkF m 120 #[.val (.ref r), .val (.ref na), .val (.ref ea), .val (.int x3), .val (.int x4), .unset] [(.ref r)])) _
    refine XS.dup P32.here hx rfl (hb hby dsl_120) rfl rfl ?_
    show Steps p.tables e below (T32.setTop (mkF m 121 #[.val (.ref r), .val (.ref na), .val (.ref ea), .val (.int x3), .val (.int x4), .unset] [(.ref r), (.ref r)])) _
    exact kQ
  show OwnDone p e below _ (T32.setTop (mkF m 121 #[.val (.ref r), .val (.ref na), .val (.ref ea), .val (.int x3), .val (.int x4), .unset] [(.ref r), (.ref r)]))
  refine own_getF C P32 (host := "") (Or.inl (hw _ (List.mem_of_getElem? (i := 39) rfl))) Via.refl (O35_r.2 7 _ _ _ _ rfl rfl) dsl_121 (fun T39 P39 => ?_)
  show OwnDone p e below _ (T39.setTop (mkF m 124 #[.val (.ref r), .val (.ref na), .val (.ref ea), .val (.int x3), .val (.int x4), .unset] [(.int sl), (.ref r)]))
  refine OwnDone.go (A := (T39.setTop (mkF m 126 #[.val (.ref r), .val (.ref na), .val (.ref ea), .val (.int x3), .val (.int x4), .unset] [(.int (sl + (1 : Int32))), (.ref r)]))) (fun tQ kQ => ?_) ?_
  · refine XS.iconst P39.here hx rfl (hb hby dsl_124) ?_
    show Steps p.tables e below (T39.setTop (mkF m 125 #[.val (.ref r), .val (.ref na), .val (.ref ea), .val (.int x3), .val (.int x4), .unset] [(.int (1 : Int32)), (.int sl), (.ref r)])) _
    refine XS.iadd P39.here hx rfl (hb hby dsl_125) rfl ?_
    show Steps p.tables e below (T39.setTop (mkF m 126 #[.val (.ref r), .val (.ref na), .val (.ref ea), .val (.int x3), .val (.int x4), .unset] [(.int (sl + (1 : Int32))), (.ref r)])) _
    exact kQ
  show OwnDone p e below _ (T39.setTop (mkF m 126 #[.val (.ref r), .val (.ref na), .val (.ref ea), .val (.int x3), .val (.int x4), .unset] [(.int (sl + (1 : Int32))), (.ref r)]))
  refine own_putO (ty := .int) C P39 (hw _ (List.mem_of_getElem? (i := 39) rfl)) Via.refl O35_r (own_laid0 hw) 7 rfl rfl (Or.inl (hw _ (List.mem_of_getElem? (i := 40) rfl))) (hw _ (List.mem_of_getElem? (i := 7) rfl)) (by decide) rfl rfl (Or.inl (List.mem_of_getElem? (i := 0) rfl)) dsl_126 (vs' := [(.ref aR), (.ref aV), (.ref aF), (.ref aT), (.ref aO), (.ref aW), (.int vd), (.int (sl + (1 : Int32))), (.int ow), (.int sz), .null, .null]) rfl (fun T40 h40 P40 K40 O40 => ?_)
  have I41_na := own_insK I33_na K40
  have I42_ea := own_insK I34_ea K40
  have Y43_aR := Y36_aR.keep K40 (ninS (own_neL (by omega)) nin0)
  have Y44_aV := Y37_aV.keep K40 (ninS (own_neL (by omega)) nin0)
  have Y45_aF := Y38_aF.keep K40 (ninS (own_neL (by omega)) nin0)
  have Y46_aT := Y32.keep K40 (ninS (own_neL (by omega)) nin0)
  show OwnDone p e below _ (T40.setTop (mkF m 129 #[.val (.ref r), .val (.ref na), .val (.ref ea), .val (.int x3), .val (.int x4), .unset] []))
  refine own_retV C P40 dsl_129 (by decide) (by decide) ⟨rfl, O40, Y43_aR, Y44_aV, Y45_aF, Y46_aT⟩
theorem dad_0 : decode prog_95_method_3_code 0 = .ok (.aload_n 0, 1) := by decide +kernel
theorem dad_1 : decode prog_95_method_3_code 1 = .ok (.getfield 39, 3) := by decide +kernel
theorem dad_4 : decode prog_95_method_3_code 4 = .ok (.aload_n 0, 1) := by decide +kernel
theorem dad_5 : decode prog_95_method_3_code 5 = .ok (.getfield 27, 3) := by decide +kernel
theorem dad_8 : decode prog_95_method_3_code 8 = .ok (.arraylength, 1) := by decide +kernel
theorem dad_9 : decode prog_95_method_3_code 9 = .ok (.if_icmp .ne 40, 3) := by decide +kernel
theorem dad_49 : decode prog_95_method_3_code 49 = .ok (.aload_n 0, 1) := by decide +kernel
theorem dad_50 : decode prog_95_method_3_code 50 = .ok (.getfield 27, 3) := by decide +kernel
theorem dad_53 : decode prog_95_method_3_code 53 = .ok (.aload_n 0, 1) := by decide +kernel
theorem dad_54 : decode prog_95_method_3_code 54 = .ok (.getfield 39, 3) := by decide +kernel
theorem dad_57 : decode prog_95_method_3_code 57 = .ok (.iload_n 1, 1) := by decide +kernel
theorem dad_58 : decode prog_95_method_3_code 58 = .ok (.iastore, 1) := by decide +kernel
theorem dad_59 : decode prog_95_method_3_code 59 = .ok (.aload_n 0, 1) := by decide +kernel
theorem dad_60 : decode prog_95_method_3_code 60 = .ok (.getfield 32, 3) := by decide +kernel
theorem dad_63 : decode prog_95_method_3_code 63 = .ok (.aload_n 0, 1) := by decide +kernel
theorem dad_64 : decode prog_95_method_3_code 64 = .ok (.getfield 39, 3) := by decide +kernel
theorem dad_67 : decode prog_95_method_3_code 67 = .ok (.aload_n 2, 1) := by decide +kernel
theorem dad_68 : decode prog_95_method_3_code 68 = .ok (.aastore, 1) := by decide +kernel
theorem dad_69 : decode prog_95_method_3_code 69 = .ok (.aload_n 0, 1) := by decide +kernel
theorem dad_70 : decode prog_95_method_3_code 70 = .ok (.dup, 1) := by decide +kernel
theorem dad_71 : decode prog_95_method_3_code 71 = .ok (.getfield 39, 3) := by decide +kernel
theorem dad_74 : decode prog_95_method_3_code 74 = .ok (.iconst 1, 1) := by decide +kernel
theorem dad_75 : decode prog_95_method_3_code 75 = .ok (.iadd, 1) := by decide +kernel
theorem dad_76 : decode prog_95_method_3_code 76 = .ok (.putfield 39, 3) := by decide +kernel
theorem dad_79 : decode prog_95_method_3_code 79 = .ok (.aload_n 0, 1) := by decide +kernel
theorem dad_80 : decode prog_95_method_3_code 80 = .ok (.dup, 1) := by decide +kernel
theorem dad_81 : decode prog_95_method_3_code 81 = .ok (.getfield 52, 3) := by decide +kernel
theorem dad_84 : decode prog_95_method_3_code 84 = .ok (.iconst 1, 1) := by decide +kernel
theorem dad_85 : decode prog_95_method_3_code 85 = .ok (.iadd, 1) := by decide +kernel
theorem dad_86 : decode prog_95_method_3_code 86 = .ok (.putfield 52, 3) := by decide +kernel
theorem dad_89 : decode prog_95_method_3_code 89 = .ok (.aload_n 0, 1) := by decide +kernel
theorem dad_90 : decode prog_95_method_3_code 90 = .ok (.iconst 0, 1) := by decide +kernel
theorem dad_91 : decode prog_95_method_3_code 91 = .ok (.putfield 49, 3) := by decide +kernel
theorem dad_94 : decode prog_95_method_3_code 94 = .ok (.aload_n 0, 1) := by decide +kernel
theorem dad_95 : decode prog_95_method_3_code 95 = .ok (.aload_n 0, 1) := by decide +kernel
theorem dad_96 : decode prog_95_method_3_code 96 = .ok (.getfield 27, 3) := by decide +kernel
theorem dad_99 : decode prog_95_method_3_code 99 = .ok (.aload_n 0, 1) := by decide +kernel
theorem dad_100 : decode prog_95_method_3_code 100 = .ok (.getfield 32, 3) := by decide +kernel
theorem dad_103 : decode prog_95_method_3_code 103 = .ok (.iconst 0, 1) := by decide +kernel
theorem dad_104 : decode prog_95_method_3_code 104 = .ok (.aload_n 0, 1) := by decide +kernel
theorem dad_105 : decode prog_95_method_3_code 105 = .ok (.getfield 39, 3) := by decide +kernel
theorem dad_108 : decode prog_95_method_3_code 108 = .ok (.invokevirtual 69, 3) := by decide +kernel
theorem dad_111 : decode prog_95_method_3_code 111 = .ok (.return_, 1) := by decide +kernel
theorem pnad : plainName "com/example/tidx/tidx/index/Run" = true := by first | (simp [plainName, overriddenIn]; done) | decide +kernel
theorem efad (m : MethodId) (r : Addr) (x1 : Int32) (oa : Addr)  : entryFrame m #[(.ref r), (.int x1), (.ref oa)] 3 = mkF m 0 #[.val (.ref r), .val (.int x1), .val (.ref oa)] [] := by first | (simp [entryFrame, mkF, argsToLocals, Value.category]; done) | rfl
set_option maxRecDepth 65536 in
set_option maxHeartbeats 40000000 in
theorem rmad (l : Launch) (Z : State) (a0 : Array Value) (hw : ∀ d ∈ tables_1, d.before a0 Z = true) (r : Addr) (x1 : Int32) (oa : Addr) (aR aV aF aT aO aW : Addr) (kR kV kF kT kO kW : ClassId) (vd sl ow sz : Int32) (rr vv ff tt oo ww : List Value) (h0 : Heap) (hE : Ext Z.heap h0) (g_r : Z.heap.size ≤ r) (g_aR : Z.heap.size ≤ aR) (g_aV : Z.heap.size ≤ aV) (g_aF : Z.heap.size ≤ aF) (g_aT : Z.heap.size ≤ aT) (g_aO : Z.heap.size ≤ aO) (g_aW : Z.heap.size ≤ aW) (Ob : OwnObj Z h0 r "com/example/tidx/tidx/index/Run" own_lay0 [(.ref aR), (.ref aV), (.ref aF), (.ref aT), (.ref aO), (.ref aW), (.int vd), (.int sl), (.int ow), (.int sz), .null, .null]) (YaR : OwnAry Z h0 aR kR (.array .int) rr) (lR : rr.length = 4) (YaV : OwnAry Z h0 aV kV (.array (.array (.object "java/lang/Object"))) vv) (lV : vv.length = 4) (YaF : OwnAry Z h0 aF kF .int ff) (lF : ff.length = 4) (YaT : OwnAry Z h0 aT kT .int tt) (lT : tt.length = 4) (YaO : OwnAry Z h0 aO kO .int oo) (lO : oo.length = 16) (YaW : OwnAry Z h0 aW kW (.array (.object "java/lang/Object")) ww) (lW : ww.length = 16) (lt0 : @LT.lt Nat _ r aR) (lt1 : @LT.lt Nat _ aR aV) (lt2 : @LT.lt Nat _ aV aF) (lt3 : @LT.lt Nat _ aF aT) (lt4 : @LT.lt Nat _ aT aO) (lt5 : @LT.lt Nat _ aO aW) (o1 : ¬ ow < 0) (o2 : ow.toNatClampNeg < 16) (Ia : Ins Z h0 oa "[Ljava/lang/Object;" true) (VR : OvrA Z kR .int "[I") (VV : OvrA Z kV (.array (.object "java/lang/Object")) "[[Ljava/lang/Object;") (VW : OvrA Z kW (.object "java/lang/Object") "[Ljava/lang/Object;") (NO : Z.vm.findClass "[I" = some kO) (NW : Z.vm.findClass "[[Ljava/lang/Object;" = some kW) :
    OwnMeets l (⟨"com/example/tidx/tidx/index/Run", "add", "(I[Ljava/lang/Object;)V"⟩ : MethodName) prog_95_method_3_code 3 none ({ frames := 1, cells := 0, slots := 0, locals := 17 } : Room) Z [r, aR, aV, aF, aT, aO, aW] #[(.ref r), (.int x1), (.ref oa)] h0 (fun v h => v = none ∧ OwnObj Z h r "com/example/tidx/tidx/index/Run" own_lay0 [(.ref aR), (.ref aV), (.ref aF), (.ref aT), (.ref aO), (.ref aW), (.int vd), (.int ((0 : Int32) + (1 : Int32))), (.int (ow + (1 : Int32))), (.int (sz + (1 : Int32))), .null, .null] ∧ OwnAry Z h aR kR (.array .int) (rr.set ((0 : Int32)).toNatClampNeg (.ref aO)) ∧ OwnAry Z h aV kV (.array (.array (.object "java/lang/Object"))) (vv.set ((0 : Int32)).toNatClampNeg (.ref aW)) ∧ OwnAry Z h aF kF .int (ff.set ((0 : Int32)).toNatClampNeg (.int (0 : Int32))) ∧ OwnAry Z h aT kT .int (tt.set ((0 : Int32)).toNatClampNeg (.int (ow + (1 : Int32)))) ∧ OwnAry Z h aO kO .int (oo.set (ow).toNatClampNeg (.int x1)) ∧ OwnAry Z h aW kW (.array (.object "java/lang/Object")) (ww.set (ow).toNatClampNeg (.ref oa))) := by
  refine OwnMeets.of (plainFor_of_name pnad) hE (allS g_r (allS g_aR (allS g_aV (allS g_aF (allS g_aT (allS g_aO (allS g_aW all0))))))) ?_
  intro p e s m below meth c T C P
  have hx := C.1
  have hby := C.2.2.2.2.1
  rw [show entryFrame m #[(.ref r), (.int x1), (.ref oa)] 3 = _ from efad m r x1 oa]
  show OwnDone p e below _ (T.setTop (mkF m 0 #[.val (.ref r), .val (.int x1), .val (.ref oa)] []))
  refine OwnDone.go (A := (T.setTop (mkF m 1 #[.val (.ref r), .val (.int x1), .val (.ref oa)] [(.ref r)]))) (fun tQ kQ => ?_) ?_
  · refine XS.aloadN P.here hx rfl (hb hby dad_0) rfl rfl ?_
    show Steps p.tables e below (T.setTop (mkF m 1 #[.val (.ref r), .val (.int x1), .val (.ref oa)] [(.ref r)])) _
    exact kQ
  show OwnDone p e below _ (T.setTop (mkF m 1 #[.val (.ref r), .val (.int x1), .val (.ref oa)] [(.ref r)]))
  refine own_getF C P (host := "") (Or.inl (hw _ (List.mem_of_getElem? (i := 50) rfl))) Via.refl (Ob.2 8 _ _ _ _ rfl rfl) dad_1 (fun T1 P1 => ?_)
  show OwnDone p e below _ (T1.setTop (mkF m 4 #[.val (.ref r), .val (.int x1), .val (.ref oa)] [(.int ow)]))
  refine OwnDone.go (A := (T1.setTop (mkF m 5 #[.val (.ref r), .val (.int x1), .val (.ref oa)] [(.ref r), (.int ow)]))) (fun tQ kQ => ?_) ?_
  · refine XS.aloadN P1.here hx rfl (hb hby dad_4) rfl rfl ?_
    show Steps p.tables e below (T1.setTop (mkF m 5 #[.val (.ref r), .val (.int x1), .val (.ref oa)] [(.ref r), (.int ow)])) _
    exact kQ
  show OwnDone p e below _ (T1.setTop (mkF m 5 #[.val (.ref r), .val (.int x1), .val (.ref oa)] [(.ref r), (.int ow)]))
  refine own_getF C P1 (host := "") (Or.inl (hw _ (List.mem_of_getElem? (i := 27) rfl))) Via.refl (Ob.2 4 _ _ _ _ rfl rfl) dad_5 (fun T2 P2 => ?_)
  show OwnDone p e below _ (T2.setTop (mkF m 8 #[.val (.ref r), .val (.int x1), .val (.ref oa)] [(.ref aO), (.int ow)]))
  refine OwnDone.go (A := (T2.setTop (mkF m 9 #[.val (.ref r), .val (.int x1), .val (.ref oa)] [(.int (16 : Int32)), (.int ow)]))) (fun tQ kQ => ?_) ?_
  · refine own_alenN C P2 YaO lO dad_8 ?_
    show Steps p.tables e below (T2.setTop (mkF m 9 #[.val (.ref r), .val (.int x1), .val (.ref oa)] [(.int (16 : Int32)), (.int ow)])) _
    exact kQ
  show OwnDone p e below _ (T2.setTop (mkF m 9 #[.val (.ref r), .val (.int x1), .val (.ref oa)] [(.int (16 : Int32)), (.int ow)]))
  refine OwnDone.go (A := (T2.setTop (mkF m 49 #[.val (.ref r), .val (.int x1), .val (.ref oa)] []))) (fun tQ kQ => XS.icmpYes P2.here hx rfl (pc0 := 9) (pc' := 49) rfl (hb hby dad_9) rfl (XT.ii_ne_t (own_not16 o2)) (by decide) (by decide) kQ) ?_
  show OwnDone p e below _ (T2.setTop (mkF m 49 #[.val (.ref r), .val (.int x1), .val (.ref oa)] []))
  refine OwnDone.go (A := (T2.setTop (mkF m 50 #[.val (.ref r), .val (.int x1), .val (.ref oa)] [(.ref r)]))) (fun tQ kQ => ?_) ?_
  · refine XS.aloadN P2.here hx rfl (hb hby dad_49) rfl rfl ?_
    show Steps p.tables e below (T2.setTop (mkF m 50 #[.val (.ref r), .val (.int x1), .val (.ref oa)] [(.ref r)])) _
    exact kQ
  show OwnDone p e below _ (T2.setTop (mkF m 50 #[.val (.ref r), .val (.int x1), .val (.ref oa)] [(.ref r)]))
  refine own_getF C P2 (host := "") (Or.inl (hw _ (List.mem_of_getElem? (i := 27) rfl))) Via.refl (Ob.2 4 _ _ _ _ rfl rfl) dad_50 (fun T3 P3 => ?_)
  show OwnDone p e below _ (T3.setTop (mkF m 53 #[.val (.ref r), .val (.int x1), .val (.ref oa)] [(.ref aO)]))
  refine OwnDone.go (A := (T3.setTop (mkF m 54 #[.val (.ref r), .val (.int x1), .val (.ref oa)] [(.ref r), (.ref aO)]))) (fun tQ kQ => ?_) ?_
  · refine XS.aloadN P3.here hx rfl (hb hby dad_53) rfl rfl ?_
    show Steps p.tables e below (T3.setTop (mkF m 54 #[.val (.ref r), .val (.int x1), .val (.ref oa)] [(.ref r), (.ref aO)])) _
    exact kQ
  show OwnDone p e below _ (T3.setTop (mkF m 54 #[.val (.ref r), .val (.int x1), .val (.ref oa)] [(.ref r), (.ref aO)]))
  refine own_getF C P3 (host := "") (Or.inl (hw _ (List.mem_of_getElem? (i := 50) rfl))) Via.refl (Ob.2 8 _ _ _ _ rfl rfl) dad_54 (fun T4 P4 => ?_)
  show OwnDone p e below _ (T4.setTop (mkF m 57 #[.val (.ref r), .val (.int x1), .val (.ref oa)] [(.int ow), (.ref aO)]))
  refine OwnDone.go (A := (T4.setTop (mkF m 58 #[.val (.ref r), .val (.int x1), .val (.ref oa)] [(.int x1), (.int ow), (.ref aO)]))) (fun tQ kQ => ?_) ?_
  · refine XS.iloadN P4.here hx rfl (hb hby dad_57) rfl ?_
    show Steps p.tables e below (T4.setTop (mkF m 58 #[.val (.ref r), .val (.int x1), .val (.ref oa)] [(.int x1), (.int ow), (.ref aO)])) _
    exact kQ
  show OwnDone p e below _ (T4.setTop (mkF m 58 #[.val (.ref r), .val (.int x1), .val (.ref oa)] [(.int x1), (.int ow), (.ref aO)]))
  refine own_iastore C P4 YaO o1 (by rw [lO]; exact o2) (Or.inl (List.mem_of_getElem? (i := 5) rfl)) dad_58 (vs' := (oo.set (ow).toNatClampNeg (.int x1))) rfl (fun T5 h5 P5 K5 Y5 => ?_)
  have l5 : (oo.set (ow).toNatClampNeg (.int x1)).length = 16 := by rw [List.length_set]; exact lO
  have I6_oa := own_insK Ia K5
  have O7_r := Ob.keep K5 (ninS (own_neL (by omega)) nin0)
  have Y8_aR := YaR.keep K5 (ninS (own_neL (by omega)) nin0)
  have Y9_aV := YaV.keep K5 (ninS (own_neL (by omega)) nin0)
  have Y10_aF := YaF.keep K5 (ninS (own_neL (by omega)) nin0)
  have Y11_aT := YaT.keep K5 (ninS (own_neL (by omega)) nin0)
  have Y12_aW := YaW.keep K5 (ninS (own_neL (by omega)) nin0)
  show OwnDone p e below _ (T5.setTop (mkF m 59 #[.val (.ref r), .val (.int x1), .val (.ref oa)] []))
  refine OwnDone.go (A := (T5.setTop (mkF m 60 #[.val (.ref r), .val (.int x1), .val (.ref oa)] [(.ref r)]))) (fun tQ kQ => ?_) ?_
  · refine XS.aloadN P5.here hx rfl (hb hby dad_59) rfl rfl ?_
    show Steps p.tables e below (T5.setTop (mkF m 60 #[.val (.ref r), .val (.int x1), .val (.ref oa)] [(.ref r)])) _
    exact kQ
  show OwnDone p e below _ (T5.setTop (mkF m 60 #[.val (.ref r), .val (.int x1), .val (.ref oa)] [(.ref r)]))
  refine own_getF C P5 (host := "") (Or.inl (hw _ (List.mem_of_getElem? (i := 30) rfl))) Via.refl (O7_r.2 5 _ _ _ _ rfl rfl) dad_60 (fun T13 P13 => ?_)
  show OwnDone p e below _ (T13.setTop (mkF m 63 #[.val (.ref r), .val (.int x1), .val (.ref oa)] [(.ref aW)]))
  refine OwnDone.go (A := (T13.setTop (mkF m 64 #[.val (.ref r), .val (.int x1), .val (.ref oa)] [(.ref r), (.ref aW)]))) (fun tQ kQ => ?_) ?_
  · refine XS.aloadN P13.here hx rfl (hb hby dad_63) rfl rfl ?_
    show Steps p.tables e below (T13.setTop (mkF m 64 #[.val (.ref r), .val (.int x1), .val (.ref oa)] [(.ref r), (.ref aW)])) _
    exact kQ
  show OwnDone p e below _ (T13.setTop (mkF m 64 #[.val (.ref r), .val (.int x1), .val (.ref oa)] [(.ref r), (.ref aW)]))
  refine own_getF C P13 (host := "") (Or.inl (hw _ (List.mem_of_getElem? (i := 50) rfl))) Via.refl (O7_r.2 8 _ _ _ _ rfl rfl) dad_64 (fun T14 P14 => ?_)
  show OwnDone p e below _ (T14.setTop (mkF m 67 #[.val (.ref r), .val (.int x1), .val (.ref oa)] [(.int ow), (.ref aW)]))
  refine OwnDone.go (A := (T14.setTop (mkF m 68 #[.val (.ref r), .val (.int x1), .val (.ref oa)] [(.ref oa), (.int ow), (.ref aW)]))) (fun tQ kQ => ?_) ?_
  · refine XS.aloadN P14.here hx rfl (hb hby dad_67) rfl rfl ?_
    show Steps p.tables e below (T14.setTop (mkF m 68 #[.val (.ref r), .val (.int x1), .val (.ref oa)] [(.ref oa), (.int ow), (.ref aW)])) _
    exact kQ
  show OwnDone p e below _ (T14.setTop (mkF m 68 #[.val (.ref r), .val (.int x1), .val (.ref oa)] [(.ref oa), (.int ow), (.ref aW)]))
  refine own_aastore C P14 Y12_aW rfl o1 (by rw [lW]; exact o2) (Y12_aW.stoA VW I6_oa) (Or.inl (List.mem_of_getElem? (i := 6) rfl)) dad_68 (vs' := (ww.set (ow).toNatClampNeg (.ref oa))) rfl (fun T15 h15 P15 K15 Y15 => ?_)
  have l15 : (ww.set (ow).toNatClampNeg (.ref oa)).length = 16 := by rw [List.length_set]; exact lW
  have I16_oa := own_insK I6_oa K15
  have O17_r := O7_r.keep K15 (ninS (own_neL (by omega)) nin0)
  have Y18_aR := Y8_aR.keep K15 (ninS (own_neL (by omega)) nin0)
  have Y19_aV := Y9_aV.keep K15 (ninS (own_neL (by omega)) nin0)
  have Y20_aF := Y10_aF.keep K15 (ninS (own_neL (by omega)) nin0)
  have Y21_aT := Y11_aT.keep K15 (ninS (own_neL (by omega)) nin0)
  have Y22_aO := Y5.keep K15 (ninS (own_neL (by omega)) nin0)
  show OwnDone p e below _ (T15.setTop (mkF m 69 #[.val (.ref r), .val (.int x1), .val (.ref oa)] []))
  refine OwnDone.go (A := (T15.setTop (mkF m 71 #[.val (.ref r), .val (.int x1), .val (.ref oa)] [(.ref r), (.ref r)]))) (fun tQ kQ => ?_) ?_
  · refine XS.aloadN P15.here hx rfl (hb hby dad_69) rfl rfl ?_
    show Steps p.tables e below (T15.setTop (mkF m 70 #[.val (.ref r), .val (.int x1), .val (.ref oa)] [(.ref r)])) _
    refine XS.dup P15.here hx rfl (hb hby dad_70) rfl rfl ?_
    show Steps p.tables e below (T15.setTop (mkF m 71 #[.val (.ref r), .val (.int x1), .val (.ref oa)] [(.ref r), (.ref r)])) _
    exact kQ
  show OwnDone p e below _ (T15.setTop (mkF m 71 #[.val (.ref r), .val (.int x1), .val (.ref oa)] [(.ref r), (.ref r)]))
  refine own_getF C P15 (host := "") (Or.inl (hw _ (List.mem_of_getElem? (i := 50) rfl))) Via.refl (O17_r.2 8 _ _ _ _ rfl rfl) dad_71 (fun T23 P23 => ?_)
  show OwnDone p e below _ (T23.setTop (mkF m 74 #[.val (.ref r), .val (.int x1), .val (.ref oa)] [(.int ow), (.ref r)]))
  refine OwnDone.go (A := (T23.setTop (mkF m 76 #[.val (.ref r), .val (.int x1), .val (.ref oa)] [(.int (ow + (1 : Int32))), (.ref r)]))) (fun tQ kQ => ?_) ?_
  · refine XS.iconst P23.here hx rfl (hb hby dad_74) ?_
    show Steps p.tables e below (T23.setTop (mkF m 75 #[.val (.ref r), .val (.int x1), .val (.ref oa)] [(.int (1 : Int32)), (.int ow), (.ref r)])) _
    refine XS.iadd P23.here hx rfl (hb hby dad_75) rfl ?_
    show Steps p.tables e below (T23.setTop (mkF m 76 #[.val (.ref r), .val (.int x1), .val (.ref oa)] [(.int (ow + (1 : Int32))), (.ref r)])) _
    exact kQ
  show OwnDone p e below _ (T23.setTop (mkF m 76 #[.val (.ref r), .val (.int x1), .val (.ref oa)] [(.int (ow + (1 : Int32))), (.ref r)]))
  refine own_putO (ty := .int) C P23 (hw _ (List.mem_of_getElem? (i := 50) rfl)) Via.refl O17_r (own_laid0 hw) 8 rfl rfl (Or.inl (hw _ (List.mem_of_getElem? (i := 51) rfl))) (hw _ (List.mem_of_getElem? (i := 7) rfl)) (by decide) rfl rfl (Or.inl (List.mem_of_getElem? (i := 0) rfl)) dad_76 (vs' := [(.ref aR), (.ref aV), (.ref aF), (.ref aT), (.ref aO), (.ref aW), (.int vd), (.int sl), (.int (ow + (1 : Int32))), (.int sz), .null, .null]) rfl (fun T24 h24 P24 K24 O24 => ?_)
  have I25_oa := own_insK I16_oa K24
  have Y26_aR := Y18_aR.keep K24 (ninS (own_neL (by omega)) nin0)
  have Y27_aV := Y19_aV.keep K24 (ninS (own_neL (by omega)) nin0)
  have Y28_aF := Y20_aF.keep K24 (ninS (own_neL (by omega)) nin0)
  have Y29_aT := Y21_aT.keep K24 (ninS (own_neL (by omega)) nin0)
  have Y30_aO := Y22_aO.keep K24 (ninS (own_neL (by omega)) nin0)
  have Y31_aW := Y15.keep K24 (ninS (own_neL (by omega)) nin0)
  show OwnDone p e below _ (T24.setTop (mkF m 79 #[.val (.ref r), .val (.int x1), .val (.ref oa)] []))
  refine OwnDone.go (A := (T24.setTop (mkF m 81 #[.val (.ref r), .val (.int x1), .val (.ref oa)] [(.ref r), (.ref r)]))) (fun tQ kQ => ?_) ?_
  · refine XS.aloadN P24.here hx rfl (hb hby dad_79) rfl rfl ?_
    show Steps p.tables e below (T24.setTop (mkF m 80 #[.val (.ref r), .val (.int x1), .val (.ref oa)] [(.ref r)])) _
    refine XS.dup P24.here hx rfl (hb hby dad_80) rfl rfl ?_
    show Steps p.tables e below (T24.setTop (mkF m 81 #[.val (.ref r), .val (.int x1), .val (.ref oa)] [(.ref r), (.ref r)])) _
    exact kQ
  show OwnDone p e below _ (T24.setTop (mkF m 81 #[.val (.ref r), .val (.int x1), .val (.ref oa)] [(.ref r), (.ref r)]))
  refine own_getF C P24 (host := "") (Or.inl (hw _ (List.mem_of_getElem? (i := 52) rfl))) Via.refl (O24.2 9 _ _ _ _ rfl rfl) dad_81 (fun T32 P32 => ?_)
  show OwnDone p e below _ (T32.setTop (mkF m 84 #[.val (.ref r), .val (.int x1), .val (.ref oa)] [(.int sz), (.ref r)]))
  refine OwnDone.go (A := (T32.setTop (mkF m 86 #[.val (.ref r), .val (.int x1), .val (.ref oa)] [(.int (sz + (1 : Int32))), (.ref r)]))) (fun tQ kQ => ?_) ?_
  · refine XS.iconst P32.here hx rfl (hb hby dad_84) ?_
    show Steps p.tables e below (T32.setTop (mkF m 85 #[.val (.ref r), .val (.int x1), .val (.ref oa)] [(.int (1 : Int32)), (.int sz), (.ref r)])) _
    refine XS.iadd P32.here hx rfl (hb hby dad_85) rfl ?_
    show Steps p.tables e below (T32.setTop (mkF m 86 #[.val (.ref r), .val (.int x1), .val (.ref oa)] [(.int (sz + (1 : Int32))), (.ref r)])) _
    exact kQ
  show OwnDone p e below _ (T32.setTop (mkF m 86 #[.val (.ref r), .val (.int x1), .val (.ref oa)] [(.int (sz + (1 : Int32))), (.ref r)]))
  refine own_putO (ty := .int) C P32 (hw _ (List.mem_of_getElem? (i := 52) rfl)) Via.refl O24 (own_laid0 hw) 9 rfl rfl (Or.inl (hw _ (List.mem_of_getElem? (i := 53) rfl))) (hw _ (List.mem_of_getElem? (i := 7) rfl)) (by decide) rfl rfl (Or.inl (List.mem_of_getElem? (i := 0) rfl)) dad_86 (vs' := [(.ref aR), (.ref aV), (.ref aF), (.ref aT), (.ref aO), (.ref aW), (.int vd), (.int sl), (.int (ow + (1 : Int32))), (.int (sz + (1 : Int32))), .null, .null]) rfl (fun T33 h33 P33 K33 O33 => ?_)
  have I34_oa := own_insK I25_oa K33
  have Y35_aR := Y26_aR.keep K33 (ninS (own_neL (by omega)) nin0)
  have Y36_aV := Y27_aV.keep K33 (ninS (own_neL (by omega)) nin0)
  have Y37_aF := Y28_aF.keep K33 (ninS (own_neL (by omega)) nin0)
  have Y38_aT := Y29_aT.keep K33 (ninS (own_neL (by omega)) nin0)
  have Y39_aO := Y30_aO.keep K33 (ninS (own_neL (by omega)) nin0)
  have Y40_aW := Y31_aW.keep K33 (ninS (own_neL (by omega)) nin0)
  show OwnDone p e below _ (T33.setTop (mkF m 89 #[.val (.ref r), .val (.int x1), .val (.ref oa)] []))
  refine OwnDone.go (A := (T33.setTop (mkF m 91 #[.val (.ref r), .val (.int x1), .val (.ref oa)] [(.int (0 : Int32)), (.ref r)]))) (fun tQ kQ => ?_) ?_
  · refine XS.aloadN P33.here hx rfl (hb hby dad_89) rfl rfl ?_
    show Steps p.tables e below (T33.setTop (mkF m 90 #[.val (.ref r), .val (.int x1), .val (.ref oa)] [(.ref r)])) _
    refine XS.iconst P33.here hx rfl (hb hby dad_90) ?_
    show Steps p.tables e below (T33.setTop (mkF m 91 #[.val (.ref r), .val (.int x1), .val (.ref oa)] [(.int (0 : Int32)), (.ref r)])) _
    exact kQ
  show OwnDone p e below _ (T33.setTop (mkF m 91 #[.val (.ref r), .val (.int x1), .val (.ref oa)] [(.int (0 : Int32)), (.ref r)]))
  refine own_putO (ty := .int) C P33 (hw _ (List.mem_of_getElem? (i := 39) rfl)) Via.refl O33 (own_laid0 hw) 7 rfl rfl (Or.inl (hw _ (List.mem_of_getElem? (i := 40) rfl))) (hw _ (List.mem_of_getElem? (i := 7) rfl)) (by decide) rfl rfl (Or.inl (List.mem_of_getElem? (i := 0) rfl)) dad_91 (vs' := [(.ref aR), (.ref aV), (.ref aF), (.ref aT), (.ref aO), (.ref aW), (.int vd), (.int (0 : Int32)), (.int (ow + (1 : Int32))), (.int (sz + (1 : Int32))), .null, .null]) rfl (fun T41 h41 P41 K41 O41 => ?_)
  have I42_oa := own_insK I34_oa K41
  have Y43_aR := Y35_aR.keep K41 (ninS (own_neL (by omega)) nin0)
  have Y44_aV := Y36_aV.keep K41 (ninS (own_neL (by omega)) nin0)
  have Y45_aF := Y37_aF.keep K41 (ninS (own_neL (by omega)) nin0)
  have Y46_aT := Y38_aT.keep K41 (ninS (own_neL (by omega)) nin0)
  have Y47_aO := Y39_aO.keep K41 (ninS (own_neL (by omega)) nin0)
  have Y48_aW := Y40_aW.keep K41 (ninS (own_neL (by omega)) nin0)
  show OwnDone p e below _ (T41.setTop (mkF m 94 #[.val (.ref r), .val (.int x1), .val (.ref oa)] []))
  refine OwnDone.go (A := (T41.setTop (mkF m 96 #[.val (.ref r), .val (.int x1), .val (.ref oa)] [(.ref r), (.ref r)]))) (fun tQ kQ => ?_) ?_
  · refine XS.aloadN P41.here hx rfl (hb hby dad_94) rfl rfl ?_
    show Steps p.tables e below (T41.setTop (mkF m 95 #[.val (.ref r), .val (.int x1), .val (.ref oa)] [(.ref r)])) _
    refine XS.aloadN P41.here hx rfl (hb hby dad_95) rfl rfl ?_
    show Steps p.tables e below (T41.setTop (mkF m 96 #[.val (.ref r), .val (.int x1), .val (.ref oa)] [(.ref r), (.ref r)])) _
    exact kQ
  show OwnDone p e below _ (T41.setTop (mkF m 96 #[.val (.ref r), .val (.int x1), .val (.ref oa)] [(.ref r), (.ref r)]))
  refine own_getF C P41 (host := "") (Or.inl (hw _ (List.mem_of_getElem? (i := 27) rfl))) Via.refl (O41.2 4 _ _ _ _ rfl rfl) dad_96 (fun T49 P49 => ?_)
  show OwnDone p e below _ (T49.setTop (mkF m 99 #[.val (.ref r), .val (.int x1), .val (.ref oa)] [(.ref aO), (.ref r)]))
  refine OwnDone.go (A := (T49.setTop (mkF m 100 #[.val (.ref r), .val (.int x1), .val (.ref oa)] [(.ref r), (.ref aO), (.ref r)]))) (fun tQ kQ => ?_) ?_
  · refine XS.aloadN P49.here hx rfl (hb hby dad_99) rfl rfl ?_
    show Steps p.tables e below (T49.setTop (mkF m 100 #[.val (.ref r), .val (.int x1), .val (.ref oa)] [(.ref r), (.ref aO), (.ref r)])) _
    exact kQ
  show OwnDone p e below _ (T49.setTop (mkF m 100 #[.val (.ref r), .val (.int x1), .val (.ref oa)] [(.ref r), (.ref aO), (.ref r)]))
  refine own_getF C P49 (host := "") (Or.inl (hw _ (List.mem_of_getElem? (i := 30) rfl))) Via.refl (O41.2 5 _ _ _ _ rfl rfl) dad_100 (fun T50 P50 => ?_)
  show OwnDone p e below _ (T50.setTop (mkF m 103 #[.val (.ref r), .val (.int x1), .val (.ref oa)] [(.ref aW), (.ref aO), (.ref r)]))
  refine OwnDone.go (A := (T50.setTop (mkF m 105 #[.val (.ref r), .val (.int x1), .val (.ref oa)] [(.ref r), (.int (0 : Int32)), (.ref aW), (.ref aO), (.ref r)]))) (fun tQ kQ => ?_) ?_
  · refine XS.iconst P50.here hx rfl (hb hby dad_103) ?_
    show Steps p.tables e below (T50.setTop (mkF m 104 #[.val (.ref r), .val (.int x1), .val (.ref oa)] [(.int (0 : Int32)), (.ref aW), (.ref aO), (.ref r)])) _
    refine XS.aloadN P50.here hx rfl (hb hby dad_104) rfl rfl ?_
    show Steps p.tables e below (T50.setTop (mkF m 105 #[.val (.ref r), .val (.int x1), .val (.ref oa)] [(.ref r), (.int (0 : Int32)), (.ref aW), (.ref aO), (.ref r)])) _
    exact kQ
  show OwnDone p e below _ (T50.setTop (mkF m 105 #[.val (.ref r), .val (.int x1), .val (.ref oa)] [(.ref r), (.int (0 : Int32)), (.ref aW), (.ref aO), (.ref r)]))
  refine own_getF C P50 (host := "") (Or.inl (hw _ (List.mem_of_getElem? (i := 50) rfl))) Via.refl (O41.2 8 _ _ _ _ rfl rfl) dad_105 (fun T51 P51 => ?_)
  show OwnDone p e below _ (T51.setTop (mkF m 108 #[.val (.ref r), .val (.int x1), .val (.ref oa)] [(.int (ow + (1 : Int32))), (.int (0 : Int32)), (.ref aW), (.ref aO), (.ref r)]))
  refine own_callP (y := (⟨"com/example/tidx/tidx/index/Run", "slice", "([I[[Ljava/lang/Object;II)V"⟩ : MethodName)) C P51 O41.1 (hw _ (List.mem_of_getElem? (i := 54) rfl)) (hw _ (List.mem_of_getElem? (i := 55) rfl)) (hw _ (List.mem_of_getElem? (i := 7) rfl)) (hw _ (List.mem_of_getElem? (i := 56) rfl)) (hw _ (List.mem_of_getElem? (i := 8) rfl)) (hw _ (List.mem_of_getElem? (i := 57) rfl)) (by decide) (rmsl l Z a0 hw r aO aW (0 : Int32) (ow + (1 : Int32)) aR aV aF aT aO aW kR kV kF kT vd (0 : Int32) (ow + (1 : Int32)) (sz + (1 : Int32)) rr vv ff tt h41 P51.old g_r g_aR g_aV g_aF g_aT O41 Y43_aR lR Y44_aV lV Y45_aF lF Y46_aT lT (by omega) (by omega) (by omega) (by omega) (by decide) (by decide) (Y47_aO.ins NO) (Y48_aW.ins NW) VR VV) (as := [(.ref aO), (.ref aW), (.int (0 : Int32)), (.int (ow + (1 : Int32)))]) (rest := []) pd_0 rfl rfl (wd := 0) rfl rfl dad_108 (allS (Or.inl (List.mem_of_getElem? (i := 0) rfl)) (allS (Or.inl (List.mem_of_getElem? (i := 1) rfl)) (allS (Or.inl (List.mem_of_getElem? (i := 2) rfl)) (allS (Or.inl (List.mem_of_getElem? (i := 3) rfl)) (allS (Or.inl (List.mem_of_getElem? (i := 4) rfl)) all0))))) (by decide) (by decide) (by decide) (by decide) (fun T52 h52 v52 P52 K52 hQ52 => ?_)
  obtain ⟨rfl, Ob52, YaR52, YaV52, YaF52, YaT52⟩ := hQ52
  have I53_oa := own_insK I42_oa K52
  have Y54_aO := Y47_aO.keep K52 (ninS (own_neL (by omega)) (ninS (own_neL (by omega)) (ninS (own_neL (by omega)) (ninS (own_neL (by omega)) (ninS (own_neL (by omega)) nin0)))))
  have Y55_aW := Y48_aW.keep K52 (ninS (own_neL (by omega)) (ninS (own_neL (by omega)) (ninS (own_neL (by omega)) (ninS (own_neL (by omega)) (ninS (own_neL (by omega)) nin0)))))
  have laR52 : (rr.set ((0 : Int32)).toNatClampNeg (.ref aO)).length = 4 := by rw [List.length_set]; exact lR
  have laV52 : (vv.set ((0 : Int32)).toNatClampNeg (.ref aW)).length = 4 := by rw [List.length_set]; exact lV
  have laF52 : (ff.set ((0 : Int32)).toNatClampNeg (.int (0 : Int32))).length = 4 := by rw [List.length_set]; exact lF
  have laT52 : (tt.set ((0 : Int32)).toNatClampNeg (.int (ow + (1 : Int32)))).length = 4 := by rw [List.length_set]; exact lT
  show OwnDone p e below _ (T52.setTop (mkF m 111 #[.val (.ref r), .val (.int x1), .val (.ref oa)] []))
  refine own_retV C P52 dad_111 (by decide) (by decide) ⟨rfl, Ob52, YaR52, YaV52, YaF52, YaT52, Y54_aO, Y55_aW⟩
theorem dag_0 : decode prog_95_method_4_code 0 = .ok (.iload_n 3, 1) := by decide +kernel
theorem dag_1 : decode prog_95_method_4_code 1 = .ok (.iload 4, 2) := by decide +kernel
theorem dag_3 : decode prog_95_method_4_code 3 = .ok (.if_icmp .ge 25, 3) := by decide +kernel
theorem dag_28 : decode prog_95_method_4_code 28 = .ok (.return_, 1) := by decide +kernel
theorem pnag : plainName "com/example/tidx/tidx/index/Run" = true := by first | (simp [plainName, overriddenIn]; done) | decide +kernel
theorem efag (m : MethodId) (r : Addr) (na : Addr) (ea : Addr) (x3 : Int32) (x4 : Int32)  : entryFrame m #[(.ref r), (.ref na), (.ref ea), (.int x3), (.int x4)] 5 = mkF m 0 #[.val (.ref r), .val (.ref na), .val (.ref ea), .val (.int x3), .val (.int x4)] [] := by first | (simp [entryFrame, mkF, argsToLocals, Value.category]; done) | rfl
set_option maxRecDepth 65536 in
set_option maxHeartbeats 40000000 in
theorem rmag (l : Launch) (Z : State) (a0 : Array Value) (hw : ∀ d ∈ tables_1, d.before a0 Z = true) (r : Addr) (na : Addr) (ea : Addr) (x3 : Int32) (x4 : Int32)  (h0 : Heap) (hE : Ext Z.heap h0)  (hge : ¬ x3 < x4) :
    OwnMeets l (⟨"com/example/tidx/tidx/index/Run", "add", "([I[[Ljava/lang/Object;II)V"⟩ : MethodName) prog_95_method_4_code 5 none ({ frames := 0, cells := 0, slots := 0, locals := 0 } : Room) Z [] #[(.ref r), (.ref na), (.ref ea), (.int x3), (.int x4)] h0 (fun v h => v = none ∧ h0 = h) := by
  refine OwnMeets.of (plainFor_of_name pnag) hE all0 ?_
  intro p e s m below meth c T C P
  have hx := C.1
  have hby := C.2.2.2.2.1
  rw [show entryFrame m #[(.ref r), (.ref na), (.ref ea), (.int x3), (.int x4)] 5 = _ from efag m r na ea x3 x4]
  show OwnDone p e below _ (T.setTop (mkF m 0 #[.val (.ref r), .val (.ref na), .val (.ref ea), .val (.int x3), .val (.int x4)] []))
  refine OwnDone.go (A := (T.setTop (mkF m 3 #[.val (.ref r), .val (.ref na), .val (.ref ea), .val (.int x3), .val (.int x4)] [(.int x4), (.int x3)]))) (fun tQ kQ => ?_) ?_
  · refine XS.iloadN P.here hx rfl (hb hby dag_0) rfl ?_
    show Steps p.tables e below (T.setTop (mkF m 1 #[.val (.ref r), .val (.ref na), .val (.ref ea), .val (.int x3), .val (.int x4)] [(.int x3)])) _
    refine XS.iload P.here hx rfl (hb hby dag_1) rfl ?_
    show Steps p.tables e below (T.setTop (mkF m 3 #[.val (.ref r), .val (.ref na), .val (.ref ea), .val (.int x3), .val (.int x4)] [(.int x4), (.int x3)])) _
    exact kQ
  show OwnDone p e below _ (T.setTop (mkF m 3 #[.val (.ref r), .val (.ref na), .val (.ref ea), .val (.int x3), .val (.int x4)] [(.int x4), (.int x3)]))
  refine OwnDone.go (A := (T.setTop (mkF m 28 #[.val (.ref r), .val (.ref na), .val (.ref ea), .val (.int x3), .val (.int x4)] []))) (fun tQ kQ => XS.icmpYes P.here hx rfl (pc0 := 3) (pc' := 28) rfl (hb hby dag_3) rfl (XT.ii_ge_t hge) (by decide) (by decide) kQ) ?_
  show OwnDone p e below _ (T.setTop (mkF m 28 #[.val (.ref r), .val (.ref na), .val (.ref ea), .val (.int x3), .val (.int x4)] []))
  refine own_retV C P dag_28 (by decide) (by decide) ⟨rfl, rfl⟩
theorem dal_0 : decode prog_95_method_4_code 0 = .ok (.iload_n 3, 1) := by decide +kernel
theorem dal_1 : decode prog_95_method_4_code 1 = .ok (.iload 4, 2) := by decide +kernel
theorem dal_3 : decode prog_95_method_4_code 3 = .ok (.if_icmp .ge 25, 3) := by decide +kernel
theorem dal_6 : decode prog_95_method_4_code 6 = .ok (.aload_n 0, 1) := by decide +kernel
theorem dal_7 : decode prog_95_method_4_code 7 = .ok (.aload_n 1, 1) := by decide +kernel
theorem dal_8 : decode prog_95_method_4_code 8 = .ok (.aload_n 2, 1) := by decide +kernel
theorem dal_9 : decode prog_95_method_4_code 9 = .ok (.iload_n 3, 1) := by decide +kernel
theorem dal_10 : decode prog_95_method_4_code 10 = .ok (.iload 4, 2) := by decide +kernel
theorem dal_12 : decode prog_95_method_4_code 12 = .ok (.invokevirtual 69, 3) := by decide +kernel
theorem dal_15 : decode prog_95_method_4_code 15 = .ok (.aload_n 0, 1) := by decide +kernel
theorem dal_16 : decode prog_95_method_4_code 16 = .ok (.dup, 1) := by decide +kernel
theorem dal_17 : decode prog_95_method_4_code 17 = .ok (.getfield 52, 3) := by decide +kernel
theorem dal_20 : decode prog_95_method_4_code 20 = .ok (.iload 4, 2) := by decide +kernel
theorem dal_22 : decode prog_95_method_4_code 22 = .ok (.iload_n 3, 1) := by decide +kernel
theorem dal_23 : decode prog_95_method_4_code 23 = .ok (.isub, 1) := by decide +kernel
theorem dal_24 : decode prog_95_method_4_code 24 = .ok (.iadd, 1) := by decide +kernel
theorem dal_25 : decode prog_95_method_4_code 25 = .ok (.putfield 52, 3) := by decide +kernel
theorem dal_28 : decode prog_95_method_4_code 28 = .ok (.return_, 1) := by decide +kernel
theorem pnal : plainName "com/example/tidx/tidx/index/Run" = true := by first | (simp [plainName, overriddenIn]; done) | decide +kernel
theorem efal (m : MethodId) (r : Addr) (na : Addr) (ea : Addr) (x3 : Int32) (x4 : Int32)  : entryFrame m #[(.ref r), (.ref na), (.ref ea), (.int x3), (.int x4)] 5 = mkF m 0 #[.val (.ref r), .val (.ref na), .val (.ref ea), .val (.int x3), .val (.int x4)] [] := by first | (simp [entryFrame, mkF, argsToLocals, Value.category]; done) | rfl
set_option maxRecDepth 65536 in
set_option maxHeartbeats 40000000 in
theorem rmal (l : Launch) (Z : State) (a0 : Array Value) (hw : ∀ d ∈ tables_1, d.before a0 Z = true) (r : Addr) (na : Addr) (ea : Addr) (x3 : Int32) (x4 : Int32) (aR aV aF aT aO aW : Addr) (kR kV kF kT : ClassId) (vd sl ow sz : Int32) (rr vv ff tt : List Value) (h0 : Heap) (hE : Ext Z.heap h0) (g_r : Z.heap.size ≤ r) (g_aR : Z.heap.size ≤ aR) (g_aV : Z.heap.size ≤ aV) (g_aF : Z.heap.size ≤ aF) (g_aT : Z.heap.size ≤ aT) (hlt : x3 < x4) (Ob : OwnObj Z h0 r "com/example/tidx/tidx/index/Run" own_lay0 [(.ref aR), (.ref aV), (.ref aF), (.ref aT), (.ref aO), (.ref aW), (.int vd), (.int sl), (.int ow), (.int sz), .null, .null]) (YaR : OwnAry Z h0 aR kR (.array .int) rr) (lR : rr.length = 4) (YaV : OwnAry Z h0 aV kV (.array (.array (.object "java/lang/Object"))) vv) (lV : vv.length = 4) (YaF : OwnAry Z h0 aF kF .int ff) (lF : ff.length = 4) (YaT : OwnAry Z h0 aT kT .int tt) (lT : tt.length = 4) (lt0 : @LT.lt Nat _ r aR) (lt1 : @LT.lt Nat _ aR aV) (lt2 : @LT.lt Nat _ aV aF) (lt3 : @LT.lt Nat _ aF aT) (s1 : ¬ sl < 0) (s2 : sl.toNatClampNeg < 4) (In : Ins Z h0 na "[I" true) (Ie : Ins Z h0 ea "[[Ljava/lang/Object;" true) (VR : OvrA Z kR .int "[I") (VV : OvrA Z kV (.array (.object "java/lang/Object")) "[[Ljava/lang/Object;") :
    OwnMeets l (⟨"com/example/tidx/tidx/index/Run", "add", "([I[[Ljava/lang/Object;II)V"⟩ : MethodName) prog_95_method_4_code 5 none ({ frames := 1, cells := 0, slots := 0, locals := 17 } : Room) Z [r, aR, aV, aF, aT] #[(.ref r), (.ref na), (.ref ea), (.int x3), (.int x4)] h0 (fun v h => v = none ∧ OwnObj Z h r "com/example/tidx/tidx/index/Run" own_lay0 [(.ref aR), (.ref aV), (.ref aF), (.ref aT), (.ref aO), (.ref aW), (.int vd), (.int (sl + (1 : Int32))), (.int ow), (.int (sz + (x4 - x3))), .null, .null] ∧ OwnAry Z h aR kR (.array .int) (rr.set (sl).toNatClampNeg (.ref na)) ∧ OwnAry Z h aV kV (.array (.array (.object "java/lang/Object"))) (vv.set (sl).toNatClampNeg (.ref ea)) ∧ OwnAry Z h aF kF .int (ff.set (sl).toNatClampNeg (.int x3)) ∧ OwnAry Z h aT kT .int (tt.set (sl).toNatClampNeg (.int x4))) := by
  refine OwnMeets.of (plainFor_of_name pnal) hE (allS g_r (allS g_aR (allS g_aV (allS g_aF (allS g_aT all0))))) ?_
  intro p e s m below meth c T C P
  have hx := C.1
  have hby := C.2.2.2.2.1
  rw [show entryFrame m #[(.ref r), (.ref na), (.ref ea), (.int x3), (.int x4)] 5 = _ from efal m r na ea x3 x4]
  show OwnDone p e below _ (T.setTop (mkF m 0 #[.val (.ref r), .val (.ref na), .val (.ref ea), .val (.int x3), .val (.int x4)] []))
  refine OwnDone.go (A := (T.setTop (mkF m 3 #[.val (.ref r), .val (.ref na), .val (.ref ea), .val (.int x3), .val (.int x4)] [(.int x4), (.int x3)]))) (fun tQ kQ => ?_) ?_
  · refine XS.iloadN P.here hx rfl (hb hby dal_0) rfl ?_
    show Steps p.tables e below (T.setTop (mkF m 1 #[.val (.ref r), .val (.ref na), .val (.ref ea), .val (.int x3), .val (.int x4)] [(.int x3)])) _
    refine XS.iload P.here hx rfl (hb hby dal_1) rfl ?_
    show Steps p.tables e below (T.setTop (mkF m 3 #[.val (.ref r), .val (.ref na), .val (.ref ea), .val (.int x3), .val (.int x4)] [(.int x4), (.int x3)])) _
    exact kQ
  show OwnDone p e below _ (T.setTop (mkF m 3 #[.val (.ref r), .val (.ref na), .val (.ref ea), .val (.int x3), .val (.int x4)] [(.int x4), (.int x3)]))
  refine OwnDone.go (A := (T.setTop (mkF m 6 #[.val (.ref r), .val (.ref na), .val (.ref ea), .val (.int x3), .val (.int x4)] []))) (fun tQ kQ => XS.icmpNo P.here hx rfl (hb hby dal_3) rfl (XT.ii_ge_f hlt) kQ) ?_
  show OwnDone p e below _ (T.setTop (mkF m 6 #[.val (.ref r), .val (.ref na), .val (.ref ea), .val (.int x3), .val (.int x4)] []))
  refine OwnDone.go (A := (T.setTop (mkF m 12 #[.val (.ref r), .val (.ref na), .val (.ref ea), .val (.int x3), .val (.int x4)] [(.int x4), (.int x3), (.ref ea), (.ref na), (.ref r)]))) (fun tQ kQ => ?_) ?_
  · refine XS.aloadN P.here hx rfl (hb hby dal_6) rfl rfl ?_
    show Steps p.tables e below (T.setTop (mkF m 7 #[.val (.ref r), .val (.ref na), .val (.ref ea), .val (.int x3), .val (.int x4)] [(.ref r)])) _
    refine XS.aloadN P.here hx rfl (hb hby dal_7) rfl rfl ?_
    show Steps p.tables e below (T.setTop (mkF m 8 #[.val (.ref r), .val (.ref na), .val (.ref ea), .val (.int x3), .val (.int x4)] [(.ref na), (.ref r)])) _
    refine XS.aloadN P.here hx rfl (hb hby dal_8) rfl rfl ?_
    show Steps p.tables e below (T.setTop (mkF m 9 #[.val (.ref r), .val (.ref na), .val (.ref ea), .val (.int x3), .val (.int x4)] [(.ref ea), (.ref na), (.ref r)])) _
    refine XS.iloadN P.here hx rfl (hb hby dal_9) rfl ?_
    show Steps p.tables e below (T.setTop (mkF m 10 #[.val (.ref r), .val (.ref na), .val (.ref ea), .val (.int x3), .val (.int x4)] [(.int x3), (.ref ea), (.ref na), (.ref r)])) _
    refine XS.iload P.here hx rfl (hb hby dal_10) rfl ?_
    show Steps p.tables e below (T.setTop (mkF m 12 #[.val (.ref r), .val (.ref na), .val (.ref ea), .val (.int x3), .val (.int x4)] [(.int x4), (.int x3), (.ref ea), (.ref na), (.ref r)])) _
    exact kQ
  show OwnDone p e below _ (T.setTop (mkF m 12 #[.val (.ref r), .val (.ref na), .val (.ref ea), .val (.int x3), .val (.int x4)] [(.int x4), (.int x3), (.ref ea), (.ref na), (.ref r)]))
  refine own_callP (y := (⟨"com/example/tidx/tidx/index/Run", "slice", "([I[[Ljava/lang/Object;II)V"⟩ : MethodName)) C P Ob.1 (hw _ (List.mem_of_getElem? (i := 54) rfl)) (hw _ (List.mem_of_getElem? (i := 55) rfl)) (hw _ (List.mem_of_getElem? (i := 7) rfl)) (hw _ (List.mem_of_getElem? (i := 56) rfl)) (hw _ (List.mem_of_getElem? (i := 8) rfl)) (hw _ (List.mem_of_getElem? (i := 57) rfl)) (by decide) (rmsl l Z a0 hw r na ea x3 x4 aR aV aF aT aO aW kR kV kF kT vd sl ow sz rr vv ff tt h0 P.old g_r g_aR g_aV g_aF g_aT Ob YaR lR YaV lV YaF lF YaT lT (by omega) (by omega) (by omega) (by omega) s1 s2 In Ie VR VV) (as := [(.ref na), (.ref ea), (.int x3), (.int x4)]) (rest := []) pd_0 rfl rfl (wd := 0) rfl rfl dal_12 (allS (Or.inl (List.mem_of_getElem? (i := 0) rfl)) (allS (Or.inl (List.mem_of_getElem? (i := 1) rfl)) (allS (Or.inl (List.mem_of_getElem? (i := 2) rfl)) (allS (Or.inl (List.mem_of_getElem? (i := 3) rfl)) (allS (Or.inl (List.mem_of_getElem? (i := 4) rfl)) all0))))) (by decide) (by decide) (by decide) (by decide) (fun T1 h1 v1 P1 K1 hQ1 => ?_)
  obtain ⟨rfl, Ob1, YaR1, YaV1, YaF1, YaT1⟩ := hQ1
  have I2_na := own_insK In K1
  have I3_ea := own_insK Ie K1
  have laR1 : (rr.set (sl).toNatClampNeg (.ref na)).length = 4 := by rw [List.length_set]; exact lR
  have laV1 : (vv.set (sl).toNatClampNeg (.ref ea)).length = 4 := by rw [List.length_set]; exact lV
  have laF1 : (ff.set (sl).toNatClampNeg (.int x3)).length = 4 := by rw [List.length_set]; exact lF
  have laT1 : (tt.set (sl).toNatClampNeg (.int x4)).length = 4 := by rw [List.length_set]; exact lT
  show OwnDone p e below _ (T1.setTop (mkF m 15 #[.val (.ref r), .val (.ref na), .val (.ref ea), .val (.int x3), .val (.int x4)] []))
  refine OwnDone.go (A := (T1.setTop (mkF m 17 #[.val (.ref r), .val (.ref na), .val (.ref ea), .val (.int x3), .val (.int x4)] [(.ref r), (.ref r)]))) (fun tQ kQ => ?_) ?_
  · refine XS.aloadN P1.here hx rfl (hb hby dal_15) rfl rfl ?_
    show Steps p.tables e below (T1.setTop (mkF m 16 #[.val (.ref r), .val (.ref na), .val (.ref ea), .val (.int x3), .val (.int x4)] [(.ref r)])) _
    refine XS.dup P1.here hx rfl (hb hby dal_16) rfl rfl ?_
    show Steps p.tables e below (T1.setTop (mkF m 17 #[.val (.ref r), .val (.ref na), .val (.ref ea), .val (.int x3), .val (.int x4)] [(.ref r), (.ref r)])) _
    exact kQ
  show OwnDone p e below _ (T1.setTop (mkF m 17 #[.val (.ref r), .val (.ref na), .val (.ref ea), .val (.int x3), .val (.int x4)] [(.ref r), (.ref r)]))
  refine own_getF C P1 (host := "") (Or.inl (hw _ (List.mem_of_getElem? (i := 52) rfl))) Via.refl (Ob1.2 9 _ _ _ _ rfl rfl) dal_17 (fun T4 P4 => ?_)
  show OwnDone p e below _ (T4.setTop (mkF m 20 #[.val (.ref r), .val (.ref na), .val (.ref ea), .val (.int x3), .val (.int x4)] [(.int sz), (.ref r)]))
  refine OwnDone.go (A := (T4.setTop (mkF m 25 #[.val (.ref r), .val (.ref na), .val (.ref ea), .val (.int x3), .val (.int x4)] [(.int (sz + (x4 - x3))), (.ref r)]))) (fun tQ kQ => ?_) ?_
  · refine XS.iload P4.here hx rfl (hb hby dal_20) rfl ?_
    show Steps p.tables e below (T4.setTop (mkF m 22 #[.val (.ref r), .val (.ref na), .val (.ref ea), .val (.int x3), .val (.int x4)] [(.int x4), (.int sz), (.ref r)])) _
    refine XS.iloadN P4.here hx rfl (hb hby dal_22) rfl ?_
    show Steps p.tables e below (T4.setTop (mkF m 23 #[.val (.ref r), .val (.ref na), .val (.ref ea), .val (.int x3), .val (.int x4)] [(.int x3), (.int x4), (.int sz), (.ref r)])) _
    refine XS.isub P4.here hx rfl (hb hby dal_23) rfl ?_
    show Steps p.tables e below (T4.setTop (mkF m 24 #[.val (.ref r), .val (.ref na), .val (.ref ea), .val (.int x3), .val (.int x4)] [(.int (x4 - x3)), (.int sz), (.ref r)])) _
    refine XS.iadd P4.here hx rfl (hb hby dal_24) rfl ?_
    show Steps p.tables e below (T4.setTop (mkF m 25 #[.val (.ref r), .val (.ref na), .val (.ref ea), .val (.int x3), .val (.int x4)] [(.int (sz + (x4 - x3))), (.ref r)])) _
    exact kQ
  show OwnDone p e below _ (T4.setTop (mkF m 25 #[.val (.ref r), .val (.ref na), .val (.ref ea), .val (.int x3), .val (.int x4)] [(.int (sz + (x4 - x3))), (.ref r)]))
  refine own_putO (ty := .int) C P4 (hw _ (List.mem_of_getElem? (i := 52) rfl)) Via.refl Ob1 (own_laid0 hw) 9 rfl rfl (Or.inl (hw _ (List.mem_of_getElem? (i := 53) rfl))) (hw _ (List.mem_of_getElem? (i := 7) rfl)) (by decide) rfl rfl (Or.inl (List.mem_of_getElem? (i := 0) rfl)) dal_25 (vs' := [(.ref aR), (.ref aV), (.ref aF), (.ref aT), (.ref aO), (.ref aW), (.int vd), (.int (sl + (1 : Int32))), (.int ow), (.int (sz + (x4 - x3))), .null, .null]) rfl (fun T5 h5 P5 K5 O5 => ?_)
  have I6_na := own_insK I2_na K5
  have I7_ea := own_insK I3_ea K5
  have Y8_aR := YaR1.keep K5 (ninS (own_neL (by omega)) nin0)
  have Y9_aV := YaV1.keep K5 (ninS (own_neL (by omega)) nin0)
  have Y10_aF := YaF1.keep K5 (ninS (own_neL (by omega)) nin0)
  have Y11_aT := YaT1.keep K5 (ninS (own_neL (by omega)) nin0)
  show OwnDone p e below _ (T5.setTop (mkF m 28 #[.val (.ref r), .val (.ref na), .val (.ref ea), .val (.int x3), .val (.int x4)] []))
  refine own_retV C P5 dal_28 (by decide) (by decide) ⟨rfl, O5, Y8_aR, Y9_aV, Y10_aF, Y11_aT⟩
theorem drc0_0 : decode jdk_65_method_30_code 0 = .ok (.iload_n 1, 1) := by decide +kernel
theorem drc0_1 : decode jdk_65_method_30_code 1 = .ok (.iload_n 2, 1) := by decide +kernel
theorem drc0_2 : decode jdk_65_method_30_code 2 = .ok (.if_icmp .le 44, 3) := by decide +kernel
theorem drc0_46 : decode jdk_65_method_30_code 46 = .ok (.iload_n 1, 1) := by decide +kernel
theorem drc0_47 : decode jdk_65_method_30_code 47 = .ok (.ifCond .ge 12, 3) := by decide +kernel
theorem drc0_59 : decode jdk_65_method_30_code 59 = .ok (.iload_n 2, 1) := by decide +kernel
theorem drc0_60 : decode jdk_65_method_30_code 60 = .ok (.iload_n 0, 1) := by decide +kernel
theorem drc0_61 : decode jdk_65_method_30_code 61 = .ok (.if_icmp .le 12, 3) := by decide +kernel
theorem drc0_73 : decode jdk_65_method_30_code 73 = .ok (.return_, 1) := by decide +kernel
theorem pnrc0 : plainName "java/util/Arrays" = true := by first | (simp [plainName, overriddenIn]; done) | decide +kernel
theorem efrc0 (m : MethodId)   : entryFrame m #[(.int (16 : Int32)), (.int (0 : Int32)), (.int (0 : Int32))] 3 = mkF m 0 #[.val (.int (16 : Int32)), .val (.int (0 : Int32)), .val (.int (0 : Int32))] [] := by first | (simp [entryFrame, mkF, argsToLocals, Value.category]; done) | rfl
set_option maxRecDepth 65536 in
set_option maxHeartbeats 40000000 in
theorem rmrc0 (l : Launch) (Z : State) (a0 : Array Value) (hw : ∀ d ∈ tables_1, d.before a0 Z = true)   (h0 : Heap) (hE : Ext Z.heap h0)   :
    OwnMeets l (⟨"java/util/Arrays", "rangeCheck", "(III)V"⟩ : MethodName) jdk_65_method_30_code 3 none ({ frames := 0, cells := 0, slots := 0, locals := 0 } : Room) Z [] #[(.int (16 : Int32)), (.int (0 : Int32)), (.int (0 : Int32))] h0 (fun v h => v = none ∧ h0 = h) := by
  refine OwnMeets.of (plainFor_of_name pnrc0) hE all0 ?_
  intro p e s m below meth c T C P
  have hx := C.1
  have hby := C.2.2.2.2.1
  rw [show entryFrame m #[(.int (16 : Int32)), (.int (0 : Int32)), (.int (0 : Int32))] 3 = _ from efrc0 m ]
  show OwnDone p e below _ (T.setTop (mkF m 0 #[.val (.int (16 : Int32)), .val (.int (0 : Int32)), .val (.int (0 : Int32))] []))
  refine OwnDone.go (A := (T.setTop (mkF m 2 #[.val (.int (16 : Int32)), .val (.int (0 : Int32)), .val (.int (0 : Int32))] [(.int (0 : Int32)), (.int (0 : Int32))]))) (fun tQ kQ => ?_) ?_
  · refine XS.iloadN P.here hx rfl (hb hby drc0_0) rfl ?_
    show Steps p.tables e below (T.setTop (mkF m 1 #[.val (.int (16 : Int32)), .val (.int (0 : Int32)), .val (.int (0 : Int32))] [(.int (0 : Int32))])) _
    refine XS.iloadN P.here hx rfl (hb hby drc0_1) rfl ?_
    show Steps p.tables e below (T.setTop (mkF m 2 #[.val (.int (16 : Int32)), .val (.int (0 : Int32)), .val (.int (0 : Int32))] [(.int (0 : Int32)), (.int (0 : Int32))])) _
    exact kQ
  show OwnDone p e below _ (T.setTop (mkF m 2 #[.val (.int (16 : Int32)), .val (.int (0 : Int32)), .val (.int (0 : Int32))] [(.int (0 : Int32)), (.int (0 : Int32))]))
  refine OwnDone.go (A := (T.setTop (mkF m 46 #[.val (.int (16 : Int32)), .val (.int (0 : Int32)), .val (.int (0 : Int32))] []))) (fun tQ kQ => XS.icmpYes P.here hx rfl (pc0 := 2) (pc' := 46) rfl (hb hby drc0_2) rfl (XT.ii_le_t (by decide)) (by decide) (by decide) kQ) ?_
  show OwnDone p e below _ (T.setTop (mkF m 46 #[.val (.int (16 : Int32)), .val (.int (0 : Int32)), .val (.int (0 : Int32))] []))
  refine OwnDone.go (A := (T.setTop (mkF m 47 #[.val (.int (16 : Int32)), .val (.int (0 : Int32)), .val (.int (0 : Int32))] [(.int (0 : Int32))]))) (fun tQ kQ => ?_) ?_
  · refine XS.iloadN P.here hx rfl (hb hby drc0_46) rfl ?_
    show Steps p.tables e below (T.setTop (mkF m 47 #[.val (.int (16 : Int32)), .val (.int (0 : Int32)), .val (.int (0 : Int32))] [(.int (0 : Int32))])) _
    exact kQ
  show OwnDone p e below _ (T.setTop (mkF m 47 #[.val (.int (16 : Int32)), .val (.int (0 : Int32)), .val (.int (0 : Int32))] [(.int (0 : Int32))]))
  refine OwnDone.go (A := (T.setTop (mkF m 59 #[.val (.int (16 : Int32)), .val (.int (0 : Int32)), .val (.int (0 : Int32))] []))) (fun tQ kQ => XS.ifYes P.here hx rfl (pc0 := 47) (pc' := 59) rfl (hb hby drc0_47) rfl (XT.i0_ge_t (by decide)) (by decide) (by decide) kQ) ?_
  show OwnDone p e below _ (T.setTop (mkF m 59 #[.val (.int (16 : Int32)), .val (.int (0 : Int32)), .val (.int (0 : Int32))] []))
  refine OwnDone.go (A := (T.setTop (mkF m 61 #[.val (.int (16 : Int32)), .val (.int (0 : Int32)), .val (.int (0 : Int32))] [(.int (16 : Int32)), (.int (0 : Int32))]))) (fun tQ kQ => ?_) ?_
  · refine XS.iloadN P.here hx rfl (hb hby drc0_59) rfl ?_
    show Steps p.tables e below (T.setTop (mkF m 60 #[.val (.int (16 : Int32)), .val (.int (0 : Int32)), .val (.int (0 : Int32))] [(.int (0 : Int32))])) _
    refine XS.iloadN P.here hx rfl (hb hby drc0_60) rfl ?_
    show Steps p.tables e below (T.setTop (mkF m 61 #[.val (.int (16 : Int32)), .val (.int (0 : Int32)), .val (.int (0 : Int32))] [(.int (16 : Int32)), (.int (0 : Int32))])) _
    exact kQ
  show OwnDone p e below _ (T.setTop (mkF m 61 #[.val (.int (16 : Int32)), .val (.int (0 : Int32)), .val (.int (0 : Int32))] [(.int (16 : Int32)), (.int (0 : Int32))]))
  refine OwnDone.go (A := (T.setTop (mkF m 73 #[.val (.int (16 : Int32)), .val (.int (0 : Int32)), .val (.int (0 : Int32))] []))) (fun tQ kQ => XS.icmpYes P.here hx rfl (pc0 := 61) (pc' := 73) rfl (hb hby drc0_61) rfl (XT.ii_le_t (by decide)) (by decide) (by decide) kQ) ?_
  show OwnDone p e below _ (T.setTop (mkF m 73 #[.val (.int (16 : Int32)), .val (.int (0 : Int32)), .val (.int (0 : Int32))] []))
  refine own_retV C P drc0_73 (by decide) (by decide) ⟨rfl, rfl⟩
theorem dfi0_0 : decode jdk_65_method_118_code 0 = .ok (.aload_n 0, 1) := by decide +kernel
theorem dfi0_1 : decode jdk_65_method_118_code 1 = .ok (.arraylength, 1) := by decide +kernel
theorem dfi0_2 : decode jdk_65_method_118_code 2 = .ok (.iload_n 1, 1) := by decide +kernel
theorem dfi0_3 : decode jdk_65_method_118_code 3 = .ok (.iload_n 2, 1) := by decide +kernel
theorem dfi0_4 : decode jdk_65_method_118_code 4 = .ok (.invokestatic 13, 3) := by decide +kernel
theorem dfi0_7 : decode jdk_65_method_118_code 7 = .ok (.iload_n 1, 1) := by decide +kernel
theorem dfi0_8 : decode jdk_65_method_118_code 8 = .ok (.istore 4, 2) := by decide +kernel
theorem dfi0_10 : decode jdk_65_method_118_code 10 = .ok (.iload 4, 2) := by decide +kernel
theorem dfi0_12 : decode jdk_65_method_118_code 12 = .ok (.iload_n 2, 1) := by decide +kernel
theorem dfi0_13 : decode jdk_65_method_118_code 13 = .ok (.if_icmp .ge 14, 3) := by decide +kernel
theorem dfi0_27 : decode jdk_65_method_118_code 27 = .ok (.return_, 1) := by decide +kernel
theorem pnfi0 : plainName "java/util/Arrays" = true := by first | (simp [plainName, overriddenIn]; done) | decide +kernel
theorem effi0 (m : MethodId) (aW : Addr)  : entryFrame m #[(.ref aW), (.int (0 : Int32)), (.int (0 : Int32)), .null] 5 = mkF m 0 #[.val (.ref aW), .val (.int (0 : Int32)), .val (.int (0 : Int32)), .val .null, .unset] [] := by first | (simp [entryFrame, mkF, argsToLocals, Value.category]; done) | rfl
set_option maxRecDepth 65536 in
set_option maxHeartbeats 40000000 in
theorem rmfi0 (l : Launch) (Z : State) (a0 : Array Value) (hw : ∀ d ∈ tables_1, d.before a0 Z = true) (aW : Addr) (kW : ClassId) (ww : List Value) (h0 : Heap) (hE : Ext Z.heap h0) (g_aW : Z.heap.size ≤ aW) (YaW : OwnAry Z h0 aW kW (.array (.object "java/lang/Object")) ww) (lW : ww.length = 16) :
    OwnMeets l (⟨"java/util/Arrays", "fill", "([Ljava/lang/Object;IILjava/lang/Object;)V"⟩ : MethodName) jdk_65_method_118_code 5 none ({ frames := 1, cells := 0, slots := 0, locals := 14 } : Room) Z [aW] #[(.ref aW), (.int (0 : Int32)), (.int (0 : Int32)), .null] h0 (fun v h => v = none ∧ ∃ ww' : List Value, OwnAry Z h aW kW (.array (.object "java/lang/Object")) ww' ∧ ww'.length = 16) := by
  refine OwnMeets.of (plainFor_of_name pnfi0) hE (allS g_aW all0) ?_
  intro p e s m below meth c T C P
  have hx := C.1
  have hby := C.2.2.2.2.1
  rw [show entryFrame m #[(.ref aW), (.int (0 : Int32)), (.int (0 : Int32)), .null] 5 = _ from effi0 m aW]
  show OwnDone p e below _ (T.setTop (mkF m 0 #[.val (.ref aW), .val (.int (0 : Int32)), .val (.int (0 : Int32)), .val .null, .unset] []))
  refine OwnDone.go (A := (T.setTop (mkF m 4 #[.val (.ref aW), .val (.int (0 : Int32)), .val (.int (0 : Int32)), .val .null, .unset] [(.int (0 : Int32)), (.int (0 : Int32)), (.int (16 : Int32))]))) (fun tQ kQ => ?_) ?_
  · refine XS.aloadN P.here hx rfl (hb hby dfi0_0) rfl rfl ?_
    show Steps p.tables e below (T.setTop (mkF m 1 #[.val (.ref aW), .val (.int (0 : Int32)), .val (.int (0 : Int32)), .val .null, .unset] [(.ref aW)])) _
    refine own_alenN C P YaW lW dfi0_1 ?_
    show Steps p.tables e below (T.setTop (mkF m 2 #[.val (.ref aW), .val (.int (0 : Int32)), .val (.int (0 : Int32)), .val .null, .unset] [(.int (16 : Int32))])) _
    refine XS.iloadN P.here hx rfl (hb hby dfi0_2) rfl ?_
    show Steps p.tables e below (T.setTop (mkF m 3 #[.val (.ref aW), .val (.int (0 : Int32)), .val (.int (0 : Int32)), .val .null, .unset] [(.int (0 : Int32)), (.int (16 : Int32))])) _
    refine XS.iloadN P.here hx rfl (hb hby dfi0_3) rfl ?_
    show Steps p.tables e below (T.setTop (mkF m 4 #[.val (.ref aW), .val (.int (0 : Int32)), .val (.int (0 : Int32)), .val .null, .unset] [(.int (0 : Int32)), (.int (0 : Int32)), (.int (16 : Int32))])) _
    exact kQ
  show OwnDone p e below _ (T.setTop (mkF m 4 #[.val (.ref aW), .val (.int (0 : Int32)), .val (.int (0 : Int32)), .val .null, .unset] [(.int (0 : Int32)), (.int (0 : Int32)), (.int (16 : Int32))]))
  refine own_callS (y := (⟨"java/util/Arrays", "rangeCheck", "(III)V"⟩ : MethodName)) C P (hw _ (List.mem_of_getElem? (i := 70) rfl)) (hw _ (List.mem_of_getElem? (i := 71) rfl)) (hw _ (List.mem_of_getElem? (i := 68) rfl)) (hw _ (List.mem_of_getElem? (i := 72) rfl)) (by decide) (rmrc0 l Z a0 hw h0 P.old) (as := [(.int (16 : Int32)), (.int (0 : Int32)), (.int (0 : Int32))]) (rest := []) pd_1 rfl rfl (wd := 0) rfl rfl dfi0_4 all0 (by decide) (by decide) (by decide) (by decide) (fun T1 h1 v1 P1 K1 hQ1 => ?_)
  obtain ⟨rfl, rfl⟩ := hQ1
  show OwnDone p e below _ (T1.setTop (mkF m 7 #[.val (.ref aW), .val (.int (0 : Int32)), .val (.int (0 : Int32)), .val .null, .unset] []))
  refine OwnDone.go (A := (T1.setTop (mkF m 13 #[.val (.ref aW), .val (.int (0 : Int32)), .val (.int (0 : Int32)), .val .null, .val (.int (0 : Int32))] [(.int (0 : Int32)), (.int (0 : Int32))]))) (fun tQ kQ => ?_) ?_
  · refine XS.iloadN P1.here hx rfl (hb hby dfi0_7) rfl ?_
    show Steps p.tables e below (T1.setTop (mkF m 8 #[.val (.ref aW), .val (.int (0 : Int32)), .val (.int (0 : Int32)), .val .null, .unset] [(.int (0 : Int32))])) _
    refine XS.istore P1.here hx rfl (hb hby dfi0_8) rfl (l' := #[.val (.ref aW), .val (.int (0 : Int32)), .val (.int (0 : Int32)), .val .null, .val (.int (0 : Int32))]) rfl ?_
    show Steps p.tables e below (T1.setTop (mkF m 10 #[.val (.ref aW), .val (.int (0 : Int32)), .val (.int (0 : Int32)), .val .null, .val (.int (0 : Int32))] [])) _
    refine XS.iload P1.here hx rfl (hb hby dfi0_10) rfl ?_
    show Steps p.tables e below (T1.setTop (mkF m 12 #[.val (.ref aW), .val (.int (0 : Int32)), .val (.int (0 : Int32)), .val .null, .val (.int (0 : Int32))] [(.int (0 : Int32))])) _
    refine XS.iloadN P1.here hx rfl (hb hby dfi0_12) rfl ?_
    show Steps p.tables e below (T1.setTop (mkF m 13 #[.val (.ref aW), .val (.int (0 : Int32)), .val (.int (0 : Int32)), .val .null, .val (.int (0 : Int32))] [(.int (0 : Int32)), (.int (0 : Int32))])) _
    exact kQ
  show OwnDone p e below _ (T1.setTop (mkF m 13 #[.val (.ref aW), .val (.int (0 : Int32)), .val (.int (0 : Int32)), .val .null, .val (.int (0 : Int32))] [(.int (0 : Int32)), (.int (0 : Int32))]))
  refine OwnDone.go (A := (T1.setTop (mkF m 27 #[.val (.ref aW), .val (.int (0 : Int32)), .val (.int (0 : Int32)), .val .null, .val (.int (0 : Int32))] []))) (fun tQ kQ => XS.icmpYes P1.here hx rfl (pc0 := 13) (pc' := 27) rfl (hb hby dfi0_13) rfl (XT.ii_ge_t (by decide)) (by decide) (by decide) kQ) ?_
  show OwnDone p e below _ (T1.setTop (mkF m 27 #[.val (.ref aW), .val (.int (0 : Int32)), .val (.int (0 : Int32)), .val .null, .val (.int (0 : Int32))] []))
  refine own_retV C P1 dfi0_27 (by decide) (by decide) ⟨rfl, _, YaW, lW⟩
theorem dcl0_0 : decode prog_95_method_2_code 0 = .ok (.aload_n 0, 1) := by decide +kernel
theorem dcl0_1 : decode prog_95_method_2_code 1 = .ok (.getfield 32, 3) := by decide +kernel
theorem dcl0_4 : decode prog_95_method_2_code 4 = .ok (.iconst 0, 1) := by decide +kernel
theorem dcl0_5 : decode prog_95_method_2_code 5 = .ok (.aload_n 0, 1) := by decide +kernel
theorem dcl0_6 : decode prog_95_method_2_code 6 = .ok (.getfield 39, 3) := by decide +kernel
theorem dcl0_9 : decode prog_95_method_2_code 9 = .ok (.aconst_null, 1) := by decide +kernel
theorem dcl0_10 : decode prog_95_method_2_code 10 = .ok (.invokestatic 43, 3) := by decide +kernel
theorem dcl0_13 : decode prog_95_method_2_code 13 = .ok (.aload_n 0, 1) := by decide +kernel
theorem dcl0_14 : decode prog_95_method_2_code 14 = .ok (.iconst 0, 1) := by decide +kernel
theorem dcl0_15 : decode prog_95_method_2_code 15 = .ok (.putfield 39, 3) := by decide +kernel
theorem dcl0_18 : decode prog_95_method_2_code 18 = .ok (.aload_n 0, 1) := by decide +kernel
theorem dcl0_19 : decode prog_95_method_2_code 19 = .ok (.iconst 0, 1) := by decide +kernel
theorem dcl0_20 : decode prog_95_method_2_code 20 = .ok (.putfield 49, 3) := by decide +kernel
theorem dcl0_23 : decode prog_95_method_2_code 23 = .ok (.aload_n 0, 1) := by decide +kernel
theorem dcl0_24 : decode prog_95_method_2_code 24 = .ok (.iconst 0, 1) := by decide +kernel
theorem dcl0_25 : decode prog_95_method_2_code 25 = .ok (.putfield 52, 3) := by decide +kernel
theorem dcl0_28 : decode prog_95_method_2_code 28 = .ok (.aload_n 0, 1) := by decide +kernel
theorem dcl0_29 : decode prog_95_method_2_code 29 = .ok (.aconst_null, 1) := by decide +kernel
theorem dcl0_30 : decode prog_95_method_2_code 30 = .ok (.putfield 55, 3) := by decide +kernel
theorem dcl0_33 : decode prog_95_method_2_code 33 = .ok (.aload_n 0, 1) := by decide +kernel
theorem dcl0_34 : decode prog_95_method_2_code 34 = .ok (.aconst_null, 1) := by decide +kernel
theorem dcl0_35 : decode prog_95_method_2_code 35 = .ok (.putfield 59, 3) := by decide +kernel
theorem dcl0_38 : decode prog_95_method_2_code 38 = .ok (.return_, 1) := by decide +kernel
theorem pncl0 : plainName "com/example/tidx/tidx/index/Run" = true := by first | (simp [plainName, overriddenIn]; done) | decide +kernel
theorem efcl0 (m : MethodId) (r : Addr)  : entryFrame m #[(.ref r)] 1 = mkF m 0 #[.val (.ref r)] [] := by first | (simp [entryFrame, mkF, argsToLocals, Value.category]; done) | rfl
set_option maxRecDepth 65536 in
set_option maxHeartbeats 40000000 in
theorem rmcl0 (l : Launch) (Z : State) (a0 : Array Value) (hw : ∀ d ∈ tables_1, d.before a0 Z = true) (r : Addr) (aR aV aF aT aO aW : Addr) (kW : ClassId) (vd sl sz : Int32) (ww : List Value) (h0 : Heap) (hE : Ext Z.heap h0) (g_r : Z.heap.size ≤ r) (g_aW : Z.heap.size ≤ aW) (Ob : OwnObj Z h0 r "com/example/tidx/tidx/index/Run" own_lay0 [(.ref aR), (.ref aV), (.ref aF), (.ref aT), (.ref aO), (.ref aW), (.int vd), (.int sl), (.int (0 : Int32)), (.int sz), .null, .null]) (YaW : OwnAry Z h0 aW kW (.array (.object "java/lang/Object")) ww) (lW : ww.length = 16) (lt0 : @LT.lt Nat _ r aW) :
    OwnMeets l (⟨"com/example/tidx/tidx/index/Run", "clear", "()V"⟩ : MethodName) prog_95_method_2_code 1 none ({ frames := 2, cells := 0, slots := 0, locals := 30 } : Room) Z [r, aW] #[(.ref r)] h0 (fun v h => v = none ∧ OwnObj Z h r "com/example/tidx/tidx/index/Run" own_lay0 [(.ref aR), (.ref aV), (.ref aF), (.ref aT), (.ref aO), (.ref aW), (.int vd), (.int (0 : Int32)), (.int (0 : Int32)), (.int (0 : Int32)), .null, .null] ∧ ∃ ww' : List Value, OwnAry Z h aW kW (.array (.object "java/lang/Object")) ww' ∧ ww'.length = 16) := by
  refine OwnMeets.of (plainFor_of_name pncl0) hE (allS g_r (allS g_aW all0)) ?_
  intro p e s m below meth c T C P
  have hx := C.1
  have hby := C.2.2.2.2.1
  rw [show entryFrame m #[(.ref r)] 1 = _ from efcl0 m r]
  show OwnDone p e below _ (T.setTop (mkF m 0 #[.val (.ref r)] []))
  refine OwnDone.go (A := (T.setTop (mkF m 1 #[.val (.ref r)] [(.ref r)]))) (fun tQ kQ => ?_) ?_
  · refine XS.aloadN P.here hx rfl (hb hby dcl0_0) rfl rfl ?_
    show Steps p.tables e below (T.setTop (mkF m 1 #[.val (.ref r)] [(.ref r)])) _
    exact kQ
  show OwnDone p e below _ (T.setTop (mkF m 1 #[.val (.ref r)] [(.ref r)]))
  refine own_getF C P (host := "") (Or.inl (hw _ (List.mem_of_getElem? (i := 30) rfl))) Via.refl (Ob.2 5 _ _ _ _ rfl rfl) dcl0_1 (fun T1 P1 => ?_)
  show OwnDone p e below _ (T1.setTop (mkF m 4 #[.val (.ref r)] [(.ref aW)]))
  refine OwnDone.go (A := (T1.setTop (mkF m 6 #[.val (.ref r)] [(.ref r), (.int (0 : Int32)), (.ref aW)]))) (fun tQ kQ => ?_) ?_
  · refine XS.iconst P1.here hx rfl (hb hby dcl0_4) ?_
    show Steps p.tables e below (T1.setTop (mkF m 5 #[.val (.ref r)] [(.int (0 : Int32)), (.ref aW)])) _
    refine XS.aloadN P1.here hx rfl (hb hby dcl0_5) rfl rfl ?_
    show Steps p.tables e below (T1.setTop (mkF m 6 #[.val (.ref r)] [(.ref r), (.int (0 : Int32)), (.ref aW)])) _
    exact kQ
  show OwnDone p e below _ (T1.setTop (mkF m 6 #[.val (.ref r)] [(.ref r), (.int (0 : Int32)), (.ref aW)]))
  refine own_getF C P1 (host := "") (Or.inl (hw _ (List.mem_of_getElem? (i := 50) rfl))) Via.refl (Ob.2 8 _ _ _ _ rfl rfl) dcl0_6 (fun T2 P2 => ?_)
  show OwnDone p e below _ (T2.setTop (mkF m 9 #[.val (.ref r)] [(.int (0 : Int32)), (.int (0 : Int32)), (.ref aW)]))
  refine OwnDone.go (A := (T2.setTop (mkF m 10 #[.val (.ref r)] [.null, (.int (0 : Int32)), (.int (0 : Int32)), (.ref aW)]))) (fun tQ kQ => ?_) ?_
  · refine XS.aconstNull P2.here hx rfl (hb hby dcl0_9) ?_
    show Steps p.tables e below (T2.setTop (mkF m 10 #[.val (.ref r)] [.null, (.int (0 : Int32)), (.int (0 : Int32)), (.ref aW)])) _
    exact kQ
  show OwnDone p e below _ (T2.setTop (mkF m 10 #[.val (.ref r)] [.null, (.int (0 : Int32)), (.int (0 : Int32)), (.ref aW)]))
  refine own_callS (y := (⟨"java/util/Arrays", "fill", "([Ljava/lang/Object;IILjava/lang/Object;)V"⟩ : MethodName)) C P2 (hw _ (List.mem_of_getElem? (i := 66) rfl)) (hw _ (List.mem_of_getElem? (i := 67) rfl)) (hw _ (List.mem_of_getElem? (i := 68) rfl)) (hw _ (List.mem_of_getElem? (i := 69) rfl)) (by decide) (rmfi0 l Z a0 hw aW kW ww h0 P2.old g_aW YaW lW) (as := [(.ref aW), (.int (0 : Int32)), (.int (0 : Int32)), .null]) (rest := []) pd_2 rfl rfl (wd := 0) rfl rfl dcl0_10 (allS (Or.inl (List.mem_of_getElem? (i := 1) rfl)) all0) (by decide) (by decide) (by decide) (by decide) (fun T3 h3 v3 P3 K3 hQ3 => ?_)
  obtain ⟨rfl, ww3, YaW3, lW3⟩ := hQ3
  have O4_r := Ob.keep K3 (ninS (own_neL (by omega)) nin0)
  show OwnDone p e below _ (T3.setTop (mkF m 13 #[.val (.ref r)] []))
  refine OwnDone.go (A := (T3.setTop (mkF m 15 #[.val (.ref r)] [(.int (0 : Int32)), (.ref r)]))) (fun tQ kQ => ?_) ?_
  · refine XS.aloadN P3.here hx rfl (hb hby dcl0_13) rfl rfl ?_
    show Steps p.tables e below (T3.setTop (mkF m 14 #[.val (.ref r)] [(.ref r)])) _
    refine XS.iconst P3.here hx rfl (hb hby dcl0_14) ?_
    show Steps p.tables e below (T3.setTop (mkF m 15 #[.val (.ref r)] [(.int (0 : Int32)), (.ref r)])) _
    exact kQ
  show OwnDone p e below _ (T3.setTop (mkF m 15 #[.val (.ref r)] [(.int (0 : Int32)), (.ref r)]))
  refine own_putO (ty := .int) C P3 (hw _ (List.mem_of_getElem? (i := 50) rfl)) Via.refl O4_r (own_laid0 hw) 8 rfl rfl (Or.inl (hw _ (List.mem_of_getElem? (i := 51) rfl))) (hw _ (List.mem_of_getElem? (i := 7) rfl)) (by decide) rfl rfl (Or.inl (List.mem_of_getElem? (i := 0) rfl)) dcl0_15 (vs' := [(.ref aR), (.ref aV), (.ref aF), (.ref aT), (.ref aO), (.ref aW), (.int vd), (.int sl), (.int (0 : Int32)), (.int sz), .null, .null]) rfl (fun T5 h5 P5 K5 O5 => ?_)
  have Y6_aW := YaW3.keep K5 (ninS (own_neL (by omega)) nin0)
  show OwnDone p e below _ (T5.setTop (mkF m 18 #[.val (.ref r)] []))
  refine OwnDone.go (A := (T5.setTop (mkF m 20 #[.val (.ref r)] [(.int (0 : Int32)), (.ref r)]))) (fun tQ kQ => ?_) ?_
  · refine XS.aloadN P5.here hx rfl (hb hby dcl0_18) rfl rfl ?_
    show Steps p.tables e below (T5.setTop (mkF m 19 #[.val (.ref r)] [(.ref r)])) _
    refine XS.iconst P5.here hx rfl (hb hby dcl0_19) ?_
    show Steps p.tables e below (T5.setTop (mkF m 20 #[.val (.ref r)] [(.int (0 : Int32)), (.ref r)])) _
    exact kQ
  show OwnDone p e below _ (T5.setTop (mkF m 20 #[.val (.ref r)] [(.int (0 : Int32)), (.ref r)]))
  refine own_putO (ty := .int) C P5 (hw _ (List.mem_of_getElem? (i := 39) rfl)) Via.refl O5 (own_laid0 hw) 7 rfl rfl (Or.inl (hw _ (List.mem_of_getElem? (i := 40) rfl))) (hw _ (List.mem_of_getElem? (i := 7) rfl)) (by decide) rfl rfl (Or.inl (List.mem_of_getElem? (i := 0) rfl)) dcl0_20 (vs' := [(.ref aR), (.ref aV), (.ref aF), (.ref aT), (.ref aO), (.ref aW), (.int vd), (.int (0 : Int32)), (.int (0 : Int32)), (.int sz), .null, .null]) rfl (fun T7 h7 P7 K7 O7 => ?_)
  have Y8_aW := Y6_aW.keep K7 (ninS (own_neL (by omega)) nin0)
  show OwnDone p e below _ (T7.setTop (mkF m 23 #[.val (.ref r)] []))
  refine OwnDone.go (A := (T7.setTop (mkF m 25 #[.val (.ref r)] [(.int (0 : Int32)), (.ref r)]))) (fun tQ kQ => ?_) ?_
  · refine XS.aloadN P7.here hx rfl (hb hby dcl0_23) rfl rfl ?_
    show Steps p.tables e below (T7.setTop (mkF m 24 #[.val (.ref r)] [(.ref r)])) _
    refine XS.iconst P7.here hx rfl (hb hby dcl0_24) ?_
    show Steps p.tables e below (T7.setTop (mkF m 25 #[.val (.ref r)] [(.int (0 : Int32)), (.ref r)])) _
    exact kQ
  show OwnDone p e below _ (T7.setTop (mkF m 25 #[.val (.ref r)] [(.int (0 : Int32)), (.ref r)]))
  refine own_putO (ty := .int) C P7 (hw _ (List.mem_of_getElem? (i := 52) rfl)) Via.refl O7 (own_laid0 hw) 9 rfl rfl (Or.inl (hw _ (List.mem_of_getElem? (i := 53) rfl))) (hw _ (List.mem_of_getElem? (i := 7) rfl)) (by decide) rfl rfl (Or.inl (List.mem_of_getElem? (i := 0) rfl)) dcl0_25 (vs' := [(.ref aR), (.ref aV), (.ref aF), (.ref aT), (.ref aO), (.ref aW), (.int vd), (.int (0 : Int32)), (.int (0 : Int32)), (.int (0 : Int32)), .null, .null]) rfl (fun T9 h9 P9 K9 O9 => ?_)
  have Y10_aW := Y8_aW.keep K9 (ninS (own_neL (by omega)) nin0)
  show OwnDone p e below _ (T9.setTop (mkF m 28 #[.val (.ref r)] []))
  refine OwnDone.go (A := (T9.setTop (mkF m 30 #[.val (.ref r)] [.null, (.ref r)]))) (fun tQ kQ => ?_) ?_
  · refine XS.aloadN P9.here hx rfl (hb hby dcl0_28) rfl rfl ?_
    show Steps p.tables e below (T9.setTop (mkF m 29 #[.val (.ref r)] [(.ref r)])) _
    refine XS.aconstNull P9.here hx rfl (hb hby dcl0_29) ?_
    show Steps p.tables e below (T9.setTop (mkF m 30 #[.val (.ref r)] [.null, (.ref r)])) _
    exact kQ
  show OwnDone p e below _ (T9.setTop (mkF m 30 #[.val (.ref r)] [.null, (.ref r)]))
  refine own_putO (ty := (.array .long)) C P9 (hw _ (List.mem_of_getElem? (i := 73) rfl)) Via.refl O9 (own_laid0 hw) 10 rfl rfl (Or.inl (hw _ (List.mem_of_getElem? (i := 74) rfl))) (hw _ (List.mem_of_getElem? (i := 7) rfl)) (by decide) rfl rfl (Or.inl (List.mem_of_getElem? (i := 0) rfl)) dcl0_30 (vs' := [(.ref aR), (.ref aV), (.ref aF), (.ref aT), (.ref aO), (.ref aW), (.int vd), (.int (0 : Int32)), (.int (0 : Int32)), (.int (0 : Int32)), .null, .null]) rfl (fun T11 h11 P11 K11 O11 => ?_)
  have Y12_aW := Y10_aW.keep K11 (ninS (own_neL (by omega)) nin0)
  show OwnDone p e below _ (T11.setTop (mkF m 33 #[.val (.ref r)] []))
  refine OwnDone.go (A := (T11.setTop (mkF m 35 #[.val (.ref r)] [.null, (.ref r)]))) (fun tQ kQ => ?_) ?_
  · refine XS.aloadN P11.here hx rfl (hb hby dcl0_33) rfl rfl ?_
    show Steps p.tables e below (T11.setTop (mkF m 34 #[.val (.ref r)] [(.ref r)])) _
    refine XS.aconstNull P11.here hx rfl (hb hby dcl0_34) ?_
    show Steps p.tables e below (T11.setTop (mkF m 35 #[.val (.ref r)] [.null, (.ref r)])) _
    exact kQ
  show OwnDone p e below _ (T11.setTop (mkF m 35 #[.val (.ref r)] [.null, (.ref r)]))
  refine own_putO (ty := (.array .int)) C P11 (hw _ (List.mem_of_getElem? (i := 75) rfl)) Via.refl O11 (own_laid0 hw) 11 rfl rfl (Or.inl (hw _ (List.mem_of_getElem? (i := 76) rfl))) (hw _ (List.mem_of_getElem? (i := 7) rfl)) (by decide) rfl rfl (Or.inl (List.mem_of_getElem? (i := 0) rfl)) dcl0_35 (vs' := [(.ref aR), (.ref aV), (.ref aF), (.ref aT), (.ref aO), (.ref aW), (.int vd), (.int (0 : Int32)), (.int (0 : Int32)), (.int (0 : Int32)), .null, .null]) rfl (fun T13 h13 P13 K13 O13 => ?_)
  have Y14_aW := Y12_aW.keep K13 (ninS (own_neL (by omega)) nin0)
  show OwnDone p e below _ (T13.setTop (mkF m 38 #[.val (.ref r)] []))
  refine own_retV C P13 dcl0_38 (by decide) (by decide) ⟨rfl, O13, _, Y14_aW, lW3⟩
theorem drc1_0 : decode jdk_65_method_30_code 0 = .ok (.iload_n 1, 1) := by decide +kernel
theorem drc1_1 : decode jdk_65_method_30_code 1 = .ok (.iload_n 2, 1) := by decide +kernel
theorem drc1_2 : decode jdk_65_method_30_code 2 = .ok (.if_icmp .le 44, 3) := by decide +kernel
theorem drc1_46 : decode jdk_65_method_30_code 46 = .ok (.iload_n 1, 1) := by decide +kernel
theorem drc1_47 : decode jdk_65_method_30_code 47 = .ok (.ifCond .ge 12, 3) := by decide +kernel
theorem drc1_59 : decode jdk_65_method_30_code 59 = .ok (.iload_n 2, 1) := by decide +kernel
theorem drc1_60 : decode jdk_65_method_30_code 60 = .ok (.iload_n 0, 1) := by decide +kernel
theorem drc1_61 : decode jdk_65_method_30_code 61 = .ok (.if_icmp .le 12, 3) := by decide +kernel
theorem drc1_73 : decode jdk_65_method_30_code 73 = .ok (.return_, 1) := by decide +kernel
theorem pnrc1 : plainName "java/util/Arrays" = true := by first | (simp [plainName, overriddenIn]; done) | decide +kernel
theorem efrc1 (m : MethodId)   : entryFrame m #[(.int (16 : Int32)), (.int (0 : Int32)), (.int (1 : Int32))] 3 = mkF m 0 #[.val (.int (16 : Int32)), .val (.int (0 : Int32)), .val (.int (1 : Int32))] [] := by first | (simp [entryFrame, mkF, argsToLocals, Value.category]; done) | rfl
set_option maxRecDepth 65536 in
set_option maxHeartbeats 40000000 in
theorem rmrc1 (l : Launch) (Z : State) (a0 : Array Value) (hw : ∀ d ∈ tables_1, d.before a0 Z = true)   (h0 : Heap) (hE : Ext Z.heap h0)   :
    OwnMeets l (⟨"java/util/Arrays", "rangeCheck", "(III)V"⟩ : MethodName) jdk_65_method_30_code 3 none ({ frames := 0, cells := 0, slots := 0, locals := 0 } : Room) Z [] #[(.int (16 : Int32)), (.int (0 : Int32)), (.int (1 : Int32))] h0 (fun v h => v = none ∧ h0 = h) := by
  refine OwnMeets.of (plainFor_of_name pnrc1) hE all0 ?_
  intro p e s m below meth c T C P
  have hx := C.1
  have hby := C.2.2.2.2.1
  rw [show entryFrame m #[(.int (16 : Int32)), (.int (0 : Int32)), (.int (1 : Int32))] 3 = _ from efrc1 m ]
  show OwnDone p e below _ (T.setTop (mkF m 0 #[.val (.int (16 : Int32)), .val (.int (0 : Int32)), .val (.int (1 : Int32))] []))
  refine OwnDone.go (A := (T.setTop (mkF m 2 #[.val (.int (16 : Int32)), .val (.int (0 : Int32)), .val (.int (1 : Int32))] [(.int (1 : Int32)), (.int (0 : Int32))]))) (fun tQ kQ => ?_) ?_
  · refine XS.iloadN P.here hx rfl (hb hby drc1_0) rfl ?_
    show Steps p.tables e below (T.setTop (mkF m 1 #[.val (.int (16 : Int32)), .val (.int (0 : Int32)), .val (.int (1 : Int32))] [(.int (0 : Int32))])) _
    refine XS.iloadN P.here hx rfl (hb hby drc1_1) rfl ?_
    show Steps p.tables e below (T.setTop (mkF m 2 #[.val (.int (16 : Int32)), .val (.int (0 : Int32)), .val (.int (1 : Int32))] [(.int (1 : Int32)), (.int (0 : Int32))])) _
    exact kQ
  show OwnDone p e below _ (T.setTop (mkF m 2 #[.val (.int (16 : Int32)), .val (.int (0 : Int32)), .val (.int (1 : Int32))] [(.int (1 : Int32)), (.int (0 : Int32))]))
  refine OwnDone.go (A := (T.setTop (mkF m 46 #[.val (.int (16 : Int32)), .val (.int (0 : Int32)), .val (.int (1 : Int32))] []))) (fun tQ kQ => XS.icmpYes P.here hx rfl (pc0 := 2) (pc' := 46) rfl (hb hby drc1_2) rfl (XT.ii_le_t (by decide)) (by decide) (by decide) kQ) ?_
  show OwnDone p e below _ (T.setTop (mkF m 46 #[.val (.int (16 : Int32)), .val (.int (0 : Int32)), .val (.int (1 : Int32))] []))
  refine OwnDone.go (A := (T.setTop (mkF m 47 #[.val (.int (16 : Int32)), .val (.int (0 : Int32)), .val (.int (1 : Int32))] [(.int (0 : Int32))]))) (fun tQ kQ => ?_) ?_
  · refine XS.iloadN P.here hx rfl (hb hby drc1_46) rfl ?_
    show Steps p.tables e below (T.setTop (mkF m 47 #[.val (.int (16 : Int32)), .val (.int (0 : Int32)), .val (.int (1 : Int32))] [(.int (0 : Int32))])) _
    exact kQ
  show OwnDone p e below _ (T.setTop (mkF m 47 #[.val (.int (16 : Int32)), .val (.int (0 : Int32)), .val (.int (1 : Int32))] [(.int (0 : Int32))]))
  refine OwnDone.go (A := (T.setTop (mkF m 59 #[.val (.int (16 : Int32)), .val (.int (0 : Int32)), .val (.int (1 : Int32))] []))) (fun tQ kQ => XS.ifYes P.here hx rfl (pc0 := 47) (pc' := 59) rfl (hb hby drc1_47) rfl (XT.i0_ge_t (by decide)) (by decide) (by decide) kQ) ?_
  show OwnDone p e below _ (T.setTop (mkF m 59 #[.val (.int (16 : Int32)), .val (.int (0 : Int32)), .val (.int (1 : Int32))] []))
  refine OwnDone.go (A := (T.setTop (mkF m 61 #[.val (.int (16 : Int32)), .val (.int (0 : Int32)), .val (.int (1 : Int32))] [(.int (16 : Int32)), (.int (1 : Int32))]))) (fun tQ kQ => ?_) ?_
  · refine XS.iloadN P.here hx rfl (hb hby drc1_59) rfl ?_
    show Steps p.tables e below (T.setTop (mkF m 60 #[.val (.int (16 : Int32)), .val (.int (0 : Int32)), .val (.int (1 : Int32))] [(.int (1 : Int32))])) _
    refine XS.iloadN P.here hx rfl (hb hby drc1_60) rfl ?_
    show Steps p.tables e below (T.setTop (mkF m 61 #[.val (.int (16 : Int32)), .val (.int (0 : Int32)), .val (.int (1 : Int32))] [(.int (16 : Int32)), (.int (1 : Int32))])) _
    exact kQ
  show OwnDone p e below _ (T.setTop (mkF m 61 #[.val (.int (16 : Int32)), .val (.int (0 : Int32)), .val (.int (1 : Int32))] [(.int (16 : Int32)), (.int (1 : Int32))]))
  refine OwnDone.go (A := (T.setTop (mkF m 73 #[.val (.int (16 : Int32)), .val (.int (0 : Int32)), .val (.int (1 : Int32))] []))) (fun tQ kQ => XS.icmpYes P.here hx rfl (pc0 := 61) (pc' := 73) rfl (hb hby drc1_61) rfl (XT.ii_le_t (by decide)) (by decide) (by decide) kQ) ?_
  show OwnDone p e below _ (T.setTop (mkF m 73 #[.val (.int (16 : Int32)), .val (.int (0 : Int32)), .val (.int (1 : Int32))] []))
  refine own_retV C P drc1_73 (by decide) (by decide) ⟨rfl, rfl⟩
theorem dfi1_0 : decode jdk_65_method_118_code 0 = .ok (.aload_n 0, 1) := by decide +kernel
theorem dfi1_1 : decode jdk_65_method_118_code 1 = .ok (.arraylength, 1) := by decide +kernel
theorem dfi1_2 : decode jdk_65_method_118_code 2 = .ok (.iload_n 1, 1) := by decide +kernel
theorem dfi1_3 : decode jdk_65_method_118_code 3 = .ok (.iload_n 2, 1) := by decide +kernel
theorem dfi1_4 : decode jdk_65_method_118_code 4 = .ok (.invokestatic 13, 3) := by decide +kernel
theorem dfi1_7 : decode jdk_65_method_118_code 7 = .ok (.iload_n 1, 1) := by decide +kernel
theorem dfi1_8 : decode jdk_65_method_118_code 8 = .ok (.istore 4, 2) := by decide +kernel
theorem dfi1_10 : decode jdk_65_method_118_code 10 = .ok (.iload 4, 2) := by decide +kernel
theorem dfi1_12 : decode jdk_65_method_118_code 12 = .ok (.iload_n 2, 1) := by decide +kernel
theorem dfi1_13 : decode jdk_65_method_118_code 13 = .ok (.if_icmp .ge 14, 3) := by decide +kernel
theorem dfi1_16 : decode jdk_65_method_118_code 16 = .ok (.aload_n 0, 1) := by decide +kernel
theorem dfi1_17 : decode jdk_65_method_118_code 17 = .ok (.iload 4, 2) := by decide +kernel
theorem dfi1_19 : decode jdk_65_method_118_code 19 = .ok (.aload_n 3, 1) := by decide +kernel
theorem dfi1_20 : decode jdk_65_method_118_code 20 = .ok (.aastore, 1) := by decide +kernel
theorem dfi1_21 : decode jdk_65_method_118_code 21 = .ok (.iinc 4 1, 3) := by decide +kernel
theorem dfi1_24 : decode jdk_65_method_118_code 24 = .ok (.goto (-14), 3) := by decide +kernel
theorem dfi1_27 : decode jdk_65_method_118_code 27 = .ok (.return_, 1) := by decide +kernel
theorem pnfi1 : plainName "java/util/Arrays" = true := by first | (simp [plainName, overriddenIn]; done) | decide +kernel
theorem effi1 (m : MethodId) (aW : Addr)  : entryFrame m #[(.ref aW), (.int (0 : Int32)), (.int (1 : Int32)), .null] 5 = mkF m 0 #[.val (.ref aW), .val (.int (0 : Int32)), .val (.int (1 : Int32)), .val .null, .unset] [] := by first | (simp [entryFrame, mkF, argsToLocals, Value.category]; done) | rfl
set_option maxRecDepth 65536 in
set_option maxHeartbeats 40000000 in
theorem rmfi1 (l : Launch) (Z : State) (a0 : Array Value) (hw : ∀ d ∈ tables_1, d.before a0 Z = true) (aW : Addr) (kW : ClassId) (ww : List Value) (h0 : Heap) (hE : Ext Z.heap h0) (g_aW : Z.heap.size ≤ aW) (YaW : OwnAry Z h0 aW kW (.array (.object "java/lang/Object")) ww) (lW : ww.length = 16) :
    OwnMeets l (⟨"java/util/Arrays", "fill", "([Ljava/lang/Object;IILjava/lang/Object;)V"⟩ : MethodName) jdk_65_method_118_code 5 none ({ frames := 1, cells := 0, slots := 0, locals := 14 } : Room) Z [aW] #[(.ref aW), (.int (0 : Int32)), (.int (1 : Int32)), .null] h0 (fun v h => v = none ∧ ∃ ww' : List Value, OwnAry Z h aW kW (.array (.object "java/lang/Object")) ww' ∧ ww'.length = 16) := by
  refine OwnMeets.of (plainFor_of_name pnfi1) hE (allS g_aW all0) ?_
  intro p e s m below meth c T C P
  have hx := C.1
  have hby := C.2.2.2.2.1
  rw [show entryFrame m #[(.ref aW), (.int (0 : Int32)), (.int (1 : Int32)), .null] 5 = _ from effi1 m aW]
  show OwnDone p e below _ (T.setTop (mkF m 0 #[.val (.ref aW), .val (.int (0 : Int32)), .val (.int (1 : Int32)), .val .null, .unset] []))
  refine OwnDone.go (A := (T.setTop (mkF m 4 #[.val (.ref aW), .val (.int (0 : Int32)), .val (.int (1 : Int32)), .val .null, .unset] [(.int (1 : Int32)), (.int (0 : Int32)), (.int (16 : Int32))]))) (fun tQ kQ => ?_) ?_
  · refine XS.aloadN P.here hx rfl (hb hby dfi1_0) rfl rfl ?_
    show Steps p.tables e below (T.setTop (mkF m 1 #[.val (.ref aW), .val (.int (0 : Int32)), .val (.int (1 : Int32)), .val .null, .unset] [(.ref aW)])) _
    refine own_alenN C P YaW lW dfi1_1 ?_
    show Steps p.tables e below (T.setTop (mkF m 2 #[.val (.ref aW), .val (.int (0 : Int32)), .val (.int (1 : Int32)), .val .null, .unset] [(.int (16 : Int32))])) _
    refine XS.iloadN P.here hx rfl (hb hby dfi1_2) rfl ?_
    show Steps p.tables e below (T.setTop (mkF m 3 #[.val (.ref aW), .val (.int (0 : Int32)), .val (.int (1 : Int32)), .val .null, .unset] [(.int (0 : Int32)), (.int (16 : Int32))])) _
    refine XS.iloadN P.here hx rfl (hb hby dfi1_3) rfl ?_
    show Steps p.tables e below (T.setTop (mkF m 4 #[.val (.ref aW), .val (.int (0 : Int32)), .val (.int (1 : Int32)), .val .null, .unset] [(.int (1 : Int32)), (.int (0 : Int32)), (.int (16 : Int32))])) _
    exact kQ
  show OwnDone p e below _ (T.setTop (mkF m 4 #[.val (.ref aW), .val (.int (0 : Int32)), .val (.int (1 : Int32)), .val .null, .unset] [(.int (1 : Int32)), (.int (0 : Int32)), (.int (16 : Int32))]))
  refine own_callS (y := (⟨"java/util/Arrays", "rangeCheck", "(III)V"⟩ : MethodName)) C P (hw _ (List.mem_of_getElem? (i := 70) rfl)) (hw _ (List.mem_of_getElem? (i := 71) rfl)) (hw _ (List.mem_of_getElem? (i := 68) rfl)) (hw _ (List.mem_of_getElem? (i := 72) rfl)) (by decide) (rmrc1 l Z a0 hw h0 P.old) (as := [(.int (16 : Int32)), (.int (0 : Int32)), (.int (1 : Int32))]) (rest := []) pd_1 rfl rfl (wd := 0) rfl rfl dfi1_4 all0 (by decide) (by decide) (by decide) (by decide) (fun T1 h1 v1 P1 K1 hQ1 => ?_)
  obtain ⟨rfl, rfl⟩ := hQ1
  show OwnDone p e below _ (T1.setTop (mkF m 7 #[.val (.ref aW), .val (.int (0 : Int32)), .val (.int (1 : Int32)), .val .null, .unset] []))
  refine OwnDone.go (A := (T1.setTop (mkF m 13 #[.val (.ref aW), .val (.int (0 : Int32)), .val (.int (1 : Int32)), .val .null, .val (.int (0 : Int32))] [(.int (1 : Int32)), (.int (0 : Int32))]))) (fun tQ kQ => ?_) ?_
  · refine XS.iloadN P1.here hx rfl (hb hby dfi1_7) rfl ?_
    show Steps p.tables e below (T1.setTop (mkF m 8 #[.val (.ref aW), .val (.int (0 : Int32)), .val (.int (1 : Int32)), .val .null, .unset] [(.int (0 : Int32))])) _
    refine XS.istore P1.here hx rfl (hb hby dfi1_8) rfl (l' := #[.val (.ref aW), .val (.int (0 : Int32)), .val (.int (1 : Int32)), .val .null, .val (.int (0 : Int32))]) rfl ?_
    show Steps p.tables e below (T1.setTop (mkF m 10 #[.val (.ref aW), .val (.int (0 : Int32)), .val (.int (1 : Int32)), .val .null, .val (.int (0 : Int32))] [])) _
    refine XS.iload P1.here hx rfl (hb hby dfi1_10) rfl ?_
    show Steps p.tables e below (T1.setTop (mkF m 12 #[.val (.ref aW), .val (.int (0 : Int32)), .val (.int (1 : Int32)), .val .null, .val (.int (0 : Int32))] [(.int (0 : Int32))])) _
    refine XS.iloadN P1.here hx rfl (hb hby dfi1_12) rfl ?_
    show Steps p.tables e below (T1.setTop (mkF m 13 #[.val (.ref aW), .val (.int (0 : Int32)), .val (.int (1 : Int32)), .val .null, .val (.int (0 : Int32))] [(.int (1 : Int32)), (.int (0 : Int32))])) _
    exact kQ
  show OwnDone p e below _ (T1.setTop (mkF m 13 #[.val (.ref aW), .val (.int (0 : Int32)), .val (.int (1 : Int32)), .val .null, .val (.int (0 : Int32))] [(.int (1 : Int32)), (.int (0 : Int32))]))
  refine OwnDone.go (A := (T1.setTop (mkF m 16 #[.val (.ref aW), .val (.int (0 : Int32)), .val (.int (1 : Int32)), .val .null, .val (.int (0 : Int32))] []))) (fun tQ kQ => XS.icmpNo P1.here hx rfl (hb hby dfi1_13) rfl (XT.ii_ge_f (by decide)) kQ) ?_
  show OwnDone p e below _ (T1.setTop (mkF m 16 #[.val (.ref aW), .val (.int (0 : Int32)), .val (.int (1 : Int32)), .val .null, .val (.int (0 : Int32))] []))
  refine OwnDone.go (A := (T1.setTop (mkF m 20 #[.val (.ref aW), .val (.int (0 : Int32)), .val (.int (1 : Int32)), .val .null, .val (.int (0 : Int32))] [.null, (.int (0 : Int32)), (.ref aW)]))) (fun tQ kQ => ?_) ?_
  · refine XS.aloadN P1.here hx rfl (hb hby dfi1_16) rfl rfl ?_
    show Steps p.tables e below (T1.setTop (mkF m 17 #[.val (.ref aW), .val (.int (0 : Int32)), .val (.int (1 : Int32)), .val .null, .val (.int (0 : Int32))] [(.ref aW)])) _
    refine XS.iload P1.here hx rfl (hb hby dfi1_17) rfl ?_
    show Steps p.tables e below (T1.setTop (mkF m 19 #[.val (.ref aW), .val (.int (0 : Int32)), .val (.int (1 : Int32)), .val .null, .val (.int (0 : Int32))] [(.int (0 : Int32)), (.ref aW)])) _
    refine XS.aloadN P1.here hx rfl (hb hby dfi1_19) rfl rfl ?_
    show Steps p.tables e below (T1.setTop (mkF m 20 #[.val (.ref aW), .val (.int (0 : Int32)), .val (.int (1 : Int32)), .val .null, .val (.int (0 : Int32))] [.null, (.int (0 : Int32)), (.ref aW)])) _
    exact kQ
  show OwnDone p e below _ (T1.setTop (mkF m 20 #[.val (.ref aW), .val (.int (0 : Int32)), .val (.int (1 : Int32)), .val .null, .val (.int (0 : Int32))] [.null, (.int (0 : Int32)), (.ref aW)]))
  refine own_aastore C P1 YaW rfl (by decide) (by rw [lW]; decide) (Or.inl rfl) (Or.inl (List.mem_of_getElem? (i := 0) rfl)) dfi1_20 (vs' := (ww.set 0 .null)) rfl (fun T2 h2 P2 K2 Y2 => ?_)
  have l2 : (ww.set 0 .null).length = 16 := by rw [List.length_set]; exact lW
  show OwnDone p e below _ (T2.setTop (mkF m 21 #[.val (.ref aW), .val (.int (0 : Int32)), .val (.int (1 : Int32)), .val .null, .val (.int (0 : Int32))] []))
  refine OwnDone.go (A := (T2.setTop (mkF m 13 #[.val (.ref aW), .val (.int (0 : Int32)), .val (.int (1 : Int32)), .val .null, .val (.int (1 : Int32))] [(.int (1 : Int32)), (.int (1 : Int32))]))) (fun tQ kQ => ?_) ?_
  · refine XS.iinc P2.here hx rfl (hb hby dfi1_21) rfl (l' := #[.val (.ref aW), .val (.int (0 : Int32)), .val (.int (1 : Int32)), .val .null, .val (.int (1 : Int32))]) rfl ?_
    show Steps p.tables e below (T2.setTop (mkF m 24 #[.val (.ref aW), .val (.int (0 : Int32)), .val (.int (1 : Int32)), .val .null, .val (.int (1 : Int32))] [])) _
    refine XS.goto P2.here hx rfl (pc0 := 24) (pc' := 10) rfl (hb hby dfi1_24) (by decide) (by decide) ?_
    show Steps p.tables e below (T2.setTop (mkF m 10 #[.val (.ref aW), .val (.int (0 : Int32)), .val (.int (1 : Int32)), .val .null, .val (.int (1 : Int32))] [])) _
    refine XS.iload P2.here hx rfl (hb hby dfi1_10) rfl ?_
    show Steps p.tables e below (T2.setTop (mkF m 12 #[.val (.ref aW), .val (.int (0 : Int32)), .val (.int (1 : Int32)), .val .null, .val (.int (1 : Int32))] [(.int (1 : Int32))])) _
    refine XS.iloadN P2.here hx rfl (hb hby dfi1_12) rfl ?_
    show Steps p.tables e below (T2.setTop (mkF m 13 #[.val (.ref aW), .val (.int (0 : Int32)), .val (.int (1 : Int32)), .val .null, .val (.int (1 : Int32))] [(.int (1 : Int32)), (.int (1 : Int32))])) _
    exact kQ
  show OwnDone p e below _ (T2.setTop (mkF m 13 #[.val (.ref aW), .val (.int (0 : Int32)), .val (.int (1 : Int32)), .val .null, .val (.int (1 : Int32))] [(.int (1 : Int32)), (.int (1 : Int32))]))
  refine OwnDone.go (A := (T2.setTop (mkF m 27 #[.val (.ref aW), .val (.int (0 : Int32)), .val (.int (1 : Int32)), .val .null, .val (.int (1 : Int32))] []))) (fun tQ kQ => XS.icmpYes P2.here hx rfl (pc0 := 13) (pc' := 27) rfl (hb hby dfi1_13) rfl (XT.ii_ge_t (by decide)) (by decide) (by decide) kQ) ?_
  show OwnDone p e below _ (T2.setTop (mkF m 27 #[.val (.ref aW), .val (.int (0 : Int32)), .val (.int (1 : Int32)), .val .null, .val (.int (1 : Int32))] []))
  refine own_retV C P2 dfi1_27 (by decide) (by decide) ⟨rfl, _, Y2, l2⟩
theorem dcl1_0 : decode prog_95_method_2_code 0 = .ok (.aload_n 0, 1) := by decide +kernel
theorem dcl1_1 : decode prog_95_method_2_code 1 = .ok (.getfield 32, 3) := by decide +kernel
theorem dcl1_4 : decode prog_95_method_2_code 4 = .ok (.iconst 0, 1) := by decide +kernel
theorem dcl1_5 : decode prog_95_method_2_code 5 = .ok (.aload_n 0, 1) := by decide +kernel
theorem dcl1_6 : decode prog_95_method_2_code 6 = .ok (.getfield 39, 3) := by decide +kernel
theorem dcl1_9 : decode prog_95_method_2_code 9 = .ok (.aconst_null, 1) := by decide +kernel
theorem dcl1_10 : decode prog_95_method_2_code 10 = .ok (.invokestatic 43, 3) := by decide +kernel
theorem dcl1_13 : decode prog_95_method_2_code 13 = .ok (.aload_n 0, 1) := by decide +kernel
theorem dcl1_14 : decode prog_95_method_2_code 14 = .ok (.iconst 0, 1) := by decide +kernel
theorem dcl1_15 : decode prog_95_method_2_code 15 = .ok (.putfield 39, 3) := by decide +kernel
theorem dcl1_18 : decode prog_95_method_2_code 18 = .ok (.aload_n 0, 1) := by decide +kernel
theorem dcl1_19 : decode prog_95_method_2_code 19 = .ok (.iconst 0, 1) := by decide +kernel
theorem dcl1_20 : decode prog_95_method_2_code 20 = .ok (.putfield 49, 3) := by decide +kernel
theorem dcl1_23 : decode prog_95_method_2_code 23 = .ok (.aload_n 0, 1) := by decide +kernel
theorem dcl1_24 : decode prog_95_method_2_code 24 = .ok (.iconst 0, 1) := by decide +kernel
theorem dcl1_25 : decode prog_95_method_2_code 25 = .ok (.putfield 52, 3) := by decide +kernel
theorem dcl1_28 : decode prog_95_method_2_code 28 = .ok (.aload_n 0, 1) := by decide +kernel
theorem dcl1_29 : decode prog_95_method_2_code 29 = .ok (.aconst_null, 1) := by decide +kernel
theorem dcl1_30 : decode prog_95_method_2_code 30 = .ok (.putfield 55, 3) := by decide +kernel
theorem dcl1_33 : decode prog_95_method_2_code 33 = .ok (.aload_n 0, 1) := by decide +kernel
theorem dcl1_34 : decode prog_95_method_2_code 34 = .ok (.aconst_null, 1) := by decide +kernel
theorem dcl1_35 : decode prog_95_method_2_code 35 = .ok (.putfield 59, 3) := by decide +kernel
theorem dcl1_38 : decode prog_95_method_2_code 38 = .ok (.return_, 1) := by decide +kernel
theorem pncl1 : plainName "com/example/tidx/tidx/index/Run" = true := by first | (simp [plainName, overriddenIn]; done) | decide +kernel
theorem efcl1 (m : MethodId) (r : Addr)  : entryFrame m #[(.ref r)] 1 = mkF m 0 #[.val (.ref r)] [] := by first | (simp [entryFrame, mkF, argsToLocals, Value.category]; done) | rfl
set_option maxRecDepth 65536 in
set_option maxHeartbeats 40000000 in
theorem rmcl1 (l : Launch) (Z : State) (a0 : Array Value) (hw : ∀ d ∈ tables_1, d.before a0 Z = true) (r : Addr) (aR aV aF aT aO aW : Addr) (kW : ClassId) (vd sl sz : Int32) (ww : List Value) (h0 : Heap) (hE : Ext Z.heap h0) (g_r : Z.heap.size ≤ r) (g_aW : Z.heap.size ≤ aW) (Ob : OwnObj Z h0 r "com/example/tidx/tidx/index/Run" own_lay0 [(.ref aR), (.ref aV), (.ref aF), (.ref aT), (.ref aO), (.ref aW), (.int vd), (.int sl), (.int (1 : Int32)), (.int sz), .null, .null]) (YaW : OwnAry Z h0 aW kW (.array (.object "java/lang/Object")) ww) (lW : ww.length = 16) (lt0 : @LT.lt Nat _ r aW) :
    OwnMeets l (⟨"com/example/tidx/tidx/index/Run", "clear", "()V"⟩ : MethodName) prog_95_method_2_code 1 none ({ frames := 2, cells := 0, slots := 0, locals := 30 } : Room) Z [r, aW] #[(.ref r)] h0 (fun v h => v = none ∧ OwnObj Z h r "com/example/tidx/tidx/index/Run" own_lay0 [(.ref aR), (.ref aV), (.ref aF), (.ref aT), (.ref aO), (.ref aW), (.int vd), (.int (0 : Int32)), (.int (0 : Int32)), (.int (0 : Int32)), .null, .null] ∧ ∃ ww' : List Value, OwnAry Z h aW kW (.array (.object "java/lang/Object")) ww' ∧ ww'.length = 16) := by
  refine OwnMeets.of (plainFor_of_name pncl1) hE (allS g_r (allS g_aW all0)) ?_
  intro p e s m below meth c T C P
  have hx := C.1
  have hby := C.2.2.2.2.1
  rw [show entryFrame m #[(.ref r)] 1 = _ from efcl1 m r]
  show OwnDone p e below _ (T.setTop (mkF m 0 #[.val (.ref r)] []))
  refine OwnDone.go (A := (T.setTop (mkF m 1 #[.val (.ref r)] [(.ref r)]))) (fun tQ kQ => ?_) ?_
  · refine XS.aloadN P.here hx rfl (hb hby dcl1_0) rfl rfl ?_
    show Steps p.tables e below (T.setTop (mkF m 1 #[.val (.ref r)] [(.ref r)])) _
    exact kQ
  show OwnDone p e below _ (T.setTop (mkF m 1 #[.val (.ref r)] [(.ref r)]))
  refine own_getF C P (host := "") (Or.inl (hw _ (List.mem_of_getElem? (i := 30) rfl))) Via.refl (Ob.2 5 _ _ _ _ rfl rfl) dcl1_1 (fun T1 P1 => ?_)
  show OwnDone p e below _ (T1.setTop (mkF m 4 #[.val (.ref r)] [(.ref aW)]))
  refine OwnDone.go (A := (T1.setTop (mkF m 6 #[.val (.ref r)] [(.ref r), (.int (0 : Int32)), (.ref aW)]))) (fun tQ kQ => ?_) ?_
  · refine XS.iconst P1.here hx rfl (hb hby dcl1_4) ?_
    show Steps p.tables e below (T1.setTop (mkF m 5 #[.val (.ref r)] [(.int (0 : Int32)), (.ref aW)])) _
    refine XS.aloadN P1.here hx rfl (hb hby dcl1_5) rfl rfl ?_
    show Steps p.tables e below (T1.setTop (mkF m 6 #[.val (.ref r)] [(.ref r), (.int (0 : Int32)), (.ref aW)])) _
    exact kQ
  show OwnDone p e below _ (T1.setTop (mkF m 6 #[.val (.ref r)] [(.ref r), (.int (0 : Int32)), (.ref aW)]))
  refine own_getF C P1 (host := "") (Or.inl (hw _ (List.mem_of_getElem? (i := 50) rfl))) Via.refl (Ob.2 8 _ _ _ _ rfl rfl) dcl1_6 (fun T2 P2 => ?_)
  show OwnDone p e below _ (T2.setTop (mkF m 9 #[.val (.ref r)] [(.int (1 : Int32)), (.int (0 : Int32)), (.ref aW)]))
  refine OwnDone.go (A := (T2.setTop (mkF m 10 #[.val (.ref r)] [.null, (.int (1 : Int32)), (.int (0 : Int32)), (.ref aW)]))) (fun tQ kQ => ?_) ?_
  · refine XS.aconstNull P2.here hx rfl (hb hby dcl1_9) ?_
    show Steps p.tables e below (T2.setTop (mkF m 10 #[.val (.ref r)] [.null, (.int (1 : Int32)), (.int (0 : Int32)), (.ref aW)])) _
    exact kQ
  show OwnDone p e below _ (T2.setTop (mkF m 10 #[.val (.ref r)] [.null, (.int (1 : Int32)), (.int (0 : Int32)), (.ref aW)]))
  refine own_callS (y := (⟨"java/util/Arrays", "fill", "([Ljava/lang/Object;IILjava/lang/Object;)V"⟩ : MethodName)) C P2 (hw _ (List.mem_of_getElem? (i := 66) rfl)) (hw _ (List.mem_of_getElem? (i := 67) rfl)) (hw _ (List.mem_of_getElem? (i := 68) rfl)) (hw _ (List.mem_of_getElem? (i := 69) rfl)) (by decide) (rmfi1 l Z a0 hw aW kW ww h0 P2.old g_aW YaW lW) (as := [(.ref aW), (.int (0 : Int32)), (.int (1 : Int32)), .null]) (rest := []) pd_2 rfl rfl (wd := 0) rfl rfl dcl1_10 (allS (Or.inl (List.mem_of_getElem? (i := 1) rfl)) all0) (by decide) (by decide) (by decide) (by decide) (fun T3 h3 v3 P3 K3 hQ3 => ?_)
  obtain ⟨rfl, ww3, YaW3, lW3⟩ := hQ3
  have O4_r := Ob.keep K3 (ninS (own_neL (by omega)) nin0)
  show OwnDone p e below _ (T3.setTop (mkF m 13 #[.val (.ref r)] []))
  refine OwnDone.go (A := (T3.setTop (mkF m 15 #[.val (.ref r)] [(.int (0 : Int32)), (.ref r)]))) (fun tQ kQ => ?_) ?_
  · refine XS.aloadN P3.here hx rfl (hb hby dcl1_13) rfl rfl ?_
    show Steps p.tables e below (T3.setTop (mkF m 14 #[.val (.ref r)] [(.ref r)])) _
    refine XS.iconst P3.here hx rfl (hb hby dcl1_14) ?_
    show Steps p.tables e below (T3.setTop (mkF m 15 #[.val (.ref r)] [(.int (0 : Int32)), (.ref r)])) _
    exact kQ
  show OwnDone p e below _ (T3.setTop (mkF m 15 #[.val (.ref r)] [(.int (0 : Int32)), (.ref r)]))
  refine own_putO (ty := .int) C P3 (hw _ (List.mem_of_getElem? (i := 50) rfl)) Via.refl O4_r (own_laid0 hw) 8 rfl rfl (Or.inl (hw _ (List.mem_of_getElem? (i := 51) rfl))) (hw _ (List.mem_of_getElem? (i := 7) rfl)) (by decide) rfl rfl (Or.inl (List.mem_of_getElem? (i := 0) rfl)) dcl1_15 (vs' := [(.ref aR), (.ref aV), (.ref aF), (.ref aT), (.ref aO), (.ref aW), (.int vd), (.int sl), (.int (0 : Int32)), (.int sz), .null, .null]) rfl (fun T5 h5 P5 K5 O5 => ?_)
  have Y6_aW := YaW3.keep K5 (ninS (own_neL (by omega)) nin0)
  show OwnDone p e below _ (T5.setTop (mkF m 18 #[.val (.ref r)] []))
  refine OwnDone.go (A := (T5.setTop (mkF m 20 #[.val (.ref r)] [(.int (0 : Int32)), (.ref r)]))) (fun tQ kQ => ?_) ?_
  · refine XS.aloadN P5.here hx rfl (hb hby dcl1_18) rfl rfl ?_
    show Steps p.tables e below (T5.setTop (mkF m 19 #[.val (.ref r)] [(.ref r)])) _
    refine XS.iconst P5.here hx rfl (hb hby dcl1_19) ?_
    show Steps p.tables e below (T5.setTop (mkF m 20 #[.val (.ref r)] [(.int (0 : Int32)), (.ref r)])) _
    exact kQ
  show OwnDone p e below _ (T5.setTop (mkF m 20 #[.val (.ref r)] [(.int (0 : Int32)), (.ref r)]))
  refine own_putO (ty := .int) C P5 (hw _ (List.mem_of_getElem? (i := 39) rfl)) Via.refl O5 (own_laid0 hw) 7 rfl rfl (Or.inl (hw _ (List.mem_of_getElem? (i := 40) rfl))) (hw _ (List.mem_of_getElem? (i := 7) rfl)) (by decide) rfl rfl (Or.inl (List.mem_of_getElem? (i := 0) rfl)) dcl1_20 (vs' := [(.ref aR), (.ref aV), (.ref aF), (.ref aT), (.ref aO), (.ref aW), (.int vd), (.int (0 : Int32)), (.int (0 : Int32)), (.int sz), .null, .null]) rfl (fun T7 h7 P7 K7 O7 => ?_)
  have Y8_aW := Y6_aW.keep K7 (ninS (own_neL (by omega)) nin0)
  show OwnDone p e below _ (T7.setTop (mkF m 23 #[.val (.ref r)] []))
  refine OwnDone.go (A := (T7.setTop (mkF m 25 #[.val (.ref r)] [(.int (0 : Int32)), (.ref r)]))) (fun tQ kQ => ?_) ?_
  · refine XS.aloadN P7.here hx rfl (hb hby dcl1_23) rfl rfl ?_
    show Steps p.tables e below (T7.setTop (mkF m 24 #[.val (.ref r)] [(.ref r)])) _
    refine XS.iconst P7.here hx rfl (hb hby dcl1_24) ?_
    show Steps p.tables e below (T7.setTop (mkF m 25 #[.val (.ref r)] [(.int (0 : Int32)), (.ref r)])) _
    exact kQ
  show OwnDone p e below _ (T7.setTop (mkF m 25 #[.val (.ref r)] [(.int (0 : Int32)), (.ref r)]))
  refine own_putO (ty := .int) C P7 (hw _ (List.mem_of_getElem? (i := 52) rfl)) Via.refl O7 (own_laid0 hw) 9 rfl rfl (Or.inl (hw _ (List.mem_of_getElem? (i := 53) rfl))) (hw _ (List.mem_of_getElem? (i := 7) rfl)) (by decide) rfl rfl (Or.inl (List.mem_of_getElem? (i := 0) rfl)) dcl1_25 (vs' := [(.ref aR), (.ref aV), (.ref aF), (.ref aT), (.ref aO), (.ref aW), (.int vd), (.int (0 : Int32)), (.int (0 : Int32)), (.int (0 : Int32)), .null, .null]) rfl (fun T9 h9 P9 K9 O9 => ?_)
  have Y10_aW := Y8_aW.keep K9 (ninS (own_neL (by omega)) nin0)
  show OwnDone p e below _ (T9.setTop (mkF m 28 #[.val (.ref r)] []))
  refine OwnDone.go (A := (T9.setTop (mkF m 30 #[.val (.ref r)] [.null, (.ref r)]))) (fun tQ kQ => ?_) ?_
  · refine XS.aloadN P9.here hx rfl (hb hby dcl1_28) rfl rfl ?_
    show Steps p.tables e below (T9.setTop (mkF m 29 #[.val (.ref r)] [(.ref r)])) _
    refine XS.aconstNull P9.here hx rfl (hb hby dcl1_29) ?_
    show Steps p.tables e below (T9.setTop (mkF m 30 #[.val (.ref r)] [.null, (.ref r)])) _
    exact kQ
  show OwnDone p e below _ (T9.setTop (mkF m 30 #[.val (.ref r)] [.null, (.ref r)]))
  refine own_putO (ty := (.array .long)) C P9 (hw _ (List.mem_of_getElem? (i := 73) rfl)) Via.refl O9 (own_laid0 hw) 10 rfl rfl (Or.inl (hw _ (List.mem_of_getElem? (i := 74) rfl))) (hw _ (List.mem_of_getElem? (i := 7) rfl)) (by decide) rfl rfl (Or.inl (List.mem_of_getElem? (i := 0) rfl)) dcl1_30 (vs' := [(.ref aR), (.ref aV), (.ref aF), (.ref aT), (.ref aO), (.ref aW), (.int vd), (.int (0 : Int32)), (.int (0 : Int32)), (.int (0 : Int32)), .null, .null]) rfl (fun T11 h11 P11 K11 O11 => ?_)
  have Y12_aW := Y10_aW.keep K11 (ninS (own_neL (by omega)) nin0)
  show OwnDone p e below _ (T11.setTop (mkF m 33 #[.val (.ref r)] []))
  refine OwnDone.go (A := (T11.setTop (mkF m 35 #[.val (.ref r)] [.null, (.ref r)]))) (fun tQ kQ => ?_) ?_
  · refine XS.aloadN P11.here hx rfl (hb hby dcl1_33) rfl rfl ?_
    show Steps p.tables e below (T11.setTop (mkF m 34 #[.val (.ref r)] [(.ref r)])) _
    refine XS.aconstNull P11.here hx rfl (hb hby dcl1_34) ?_
    show Steps p.tables e below (T11.setTop (mkF m 35 #[.val (.ref r)] [.null, (.ref r)])) _
    exact kQ
  show OwnDone p e below _ (T11.setTop (mkF m 35 #[.val (.ref r)] [.null, (.ref r)]))
  refine own_putO (ty := (.array .int)) C P11 (hw _ (List.mem_of_getElem? (i := 75) rfl)) Via.refl O11 (own_laid0 hw) 11 rfl rfl (Or.inl (hw _ (List.mem_of_getElem? (i := 76) rfl))) (hw _ (List.mem_of_getElem? (i := 7) rfl)) (by decide) rfl rfl (Or.inl (List.mem_of_getElem? (i := 0) rfl)) dcl1_35 (vs' := [(.ref aR), (.ref aV), (.ref aF), (.ref aT), (.ref aO), (.ref aW), (.int vd), (.int (0 : Int32)), (.int (0 : Int32)), (.int (0 : Int32)), .null, .null]) rfl (fun T13 h13 P13 K13 O13 => ?_)
  have Y14_aW := Y12_aW.keep K13 (ninS (own_neL (by omega)) nin0)
  show OwnDone p e below _ (T13.setTop (mkF m 38 #[.val (.ref r)] []))
  refine own_retV C P13 dcl1_38 (by decide) (by decide) ⟨rfl, O13, _, Y14_aW, lW3⟩
theorem drc2_0 : decode jdk_65_method_30_code 0 = .ok (.iload_n 1, 1) := by decide +kernel
theorem drc2_1 : decode jdk_65_method_30_code 1 = .ok (.iload_n 2, 1) := by decide +kernel
theorem drc2_2 : decode jdk_65_method_30_code 2 = .ok (.if_icmp .le 44, 3) := by decide +kernel
theorem drc2_46 : decode jdk_65_method_30_code 46 = .ok (.iload_n 1, 1) := by decide +kernel
theorem drc2_47 : decode jdk_65_method_30_code 47 = .ok (.ifCond .ge 12, 3) := by decide +kernel
theorem drc2_59 : decode jdk_65_method_30_code 59 = .ok (.iload_n 2, 1) := by decide +kernel
theorem drc2_60 : decode jdk_65_method_30_code 60 = .ok (.iload_n 0, 1) := by decide +kernel
theorem drc2_61 : decode jdk_65_method_30_code 61 = .ok (.if_icmp .le 12, 3) := by decide +kernel
theorem drc2_73 : decode jdk_65_method_30_code 73 = .ok (.return_, 1) := by decide +kernel
theorem pnrc2 : plainName "java/util/Arrays" = true := by first | (simp [plainName, overriddenIn]; done) | decide +kernel
theorem efrc2 (m : MethodId)   : entryFrame m #[(.int (16 : Int32)), (.int (0 : Int32)), (.int (2 : Int32))] 3 = mkF m 0 #[.val (.int (16 : Int32)), .val (.int (0 : Int32)), .val (.int (2 : Int32))] [] := by first | (simp [entryFrame, mkF, argsToLocals, Value.category]; done) | rfl
set_option maxRecDepth 65536 in
set_option maxHeartbeats 40000000 in
theorem rmrc2 (l : Launch) (Z : State) (a0 : Array Value) (hw : ∀ d ∈ tables_1, d.before a0 Z = true)   (h0 : Heap) (hE : Ext Z.heap h0)   :
    OwnMeets l (⟨"java/util/Arrays", "rangeCheck", "(III)V"⟩ : MethodName) jdk_65_method_30_code 3 none ({ frames := 0, cells := 0, slots := 0, locals := 0 } : Room) Z [] #[(.int (16 : Int32)), (.int (0 : Int32)), (.int (2 : Int32))] h0 (fun v h => v = none ∧ h0 = h) := by
  refine OwnMeets.of (plainFor_of_name pnrc2) hE all0 ?_
  intro p e s m below meth c T C P
  have hx := C.1
  have hby := C.2.2.2.2.1
  rw [show entryFrame m #[(.int (16 : Int32)), (.int (0 : Int32)), (.int (2 : Int32))] 3 = _ from efrc2 m ]
  show OwnDone p e below _ (T.setTop (mkF m 0 #[.val (.int (16 : Int32)), .val (.int (0 : Int32)), .val (.int (2 : Int32))] []))
  refine OwnDone.go (A := (T.setTop (mkF m 2 #[.val (.int (16 : Int32)), .val (.int (0 : Int32)), .val (.int (2 : Int32))] [(.int (2 : Int32)), (.int (0 : Int32))]))) (fun tQ kQ => ?_) ?_
  · refine XS.iloadN P.here hx rfl (hb hby drc2_0) rfl ?_
    show Steps p.tables e below (T.setTop (mkF m 1 #[.val (.int (16 : Int32)), .val (.int (0 : Int32)), .val (.int (2 : Int32))] [(.int (0 : Int32))])) _
    refine XS.iloadN P.here hx rfl (hb hby drc2_1) rfl ?_
    show Steps p.tables e below (T.setTop (mkF m 2 #[.val (.int (16 : Int32)), .val (.int (0 : Int32)), .val (.int (2 : Int32))] [(.int (2 : Int32)), (.int (0 : Int32))])) _
    exact kQ
  show OwnDone p e below _ (T.setTop (mkF m 2 #[.val (.int (16 : Int32)), .val (.int (0 : Int32)), .val (.int (2 : Int32))] [(.int (2 : Int32)), (.int (0 : Int32))]))
  refine OwnDone.go (A := (T.setTop (mkF m 46 #[.val (.int (16 : Int32)), .val (.int (0 : Int32)), .val (.int (2 : Int32))] []))) (fun tQ kQ => XS.icmpYes P.here hx rfl (pc0 := 2) (pc' := 46) rfl (hb hby drc2_2) rfl (XT.ii_le_t (by decide)) (by decide) (by decide) kQ) ?_
  show OwnDone p e below _ (T.setTop (mkF m 46 #[.val (.int (16 : Int32)), .val (.int (0 : Int32)), .val (.int (2 : Int32))] []))
  refine OwnDone.go (A := (T.setTop (mkF m 47 #[.val (.int (16 : Int32)), .val (.int (0 : Int32)), .val (.int (2 : Int32))] [(.int (0 : Int32))]))) (fun tQ kQ => ?_) ?_
  · refine XS.iloadN P.here hx rfl (hb hby drc2_46) rfl ?_
    show Steps p.tables e below (T.setTop (mkF m 47 #[.val (.int (16 : Int32)), .val (.int (0 : Int32)), .val (.int (2 : Int32))] [(.int (0 : Int32))])) _
    exact kQ
  show OwnDone p e below _ (T.setTop (mkF m 47 #[.val (.int (16 : Int32)), .val (.int (0 : Int32)), .val (.int (2 : Int32))] [(.int (0 : Int32))]))
  refine OwnDone.go (A := (T.setTop (mkF m 59 #[.val (.int (16 : Int32)), .val (.int (0 : Int32)), .val (.int (2 : Int32))] []))) (fun tQ kQ => XS.ifYes P.here hx rfl (pc0 := 47) (pc' := 59) rfl (hb hby drc2_47) rfl (XT.i0_ge_t (by decide)) (by decide) (by decide) kQ) ?_
  show OwnDone p e below _ (T.setTop (mkF m 59 #[.val (.int (16 : Int32)), .val (.int (0 : Int32)), .val (.int (2 : Int32))] []))
  refine OwnDone.go (A := (T.setTop (mkF m 61 #[.val (.int (16 : Int32)), .val (.int (0 : Int32)), .val (.int (2 : Int32))] [(.int (16 : Int32)), (.int (2 : Int32))]))) (fun tQ kQ => ?_) ?_
  · refine XS.iloadN P.here hx rfl (hb hby drc2_59) rfl ?_
    show Steps p.tables e below (T.setTop (mkF m 60 #[.val (.int (16 : Int32)), .val (.int (0 : Int32)), .val (.int (2 : Int32))] [(.int (2 : Int32))])) _
    refine XS.iloadN P.here hx rfl (hb hby drc2_60) rfl ?_
    show Steps p.tables e below (T.setTop (mkF m 61 #[.val (.int (16 : Int32)), .val (.int (0 : Int32)), .val (.int (2 : Int32))] [(.int (16 : Int32)), (.int (2 : Int32))])) _
    exact kQ
  show OwnDone p e below _ (T.setTop (mkF m 61 #[.val (.int (16 : Int32)), .val (.int (0 : Int32)), .val (.int (2 : Int32))] [(.int (16 : Int32)), (.int (2 : Int32))]))
  refine OwnDone.go (A := (T.setTop (mkF m 73 #[.val (.int (16 : Int32)), .val (.int (0 : Int32)), .val (.int (2 : Int32))] []))) (fun tQ kQ => XS.icmpYes P.here hx rfl (pc0 := 61) (pc' := 73) rfl (hb hby drc2_61) rfl (XT.ii_le_t (by decide)) (by decide) (by decide) kQ) ?_
  show OwnDone p e below _ (T.setTop (mkF m 73 #[.val (.int (16 : Int32)), .val (.int (0 : Int32)), .val (.int (2 : Int32))] []))
  refine own_retV C P drc2_73 (by decide) (by decide) ⟨rfl, rfl⟩
theorem dfi2_0 : decode jdk_65_method_118_code 0 = .ok (.aload_n 0, 1) := by decide +kernel
theorem dfi2_1 : decode jdk_65_method_118_code 1 = .ok (.arraylength, 1) := by decide +kernel
theorem dfi2_2 : decode jdk_65_method_118_code 2 = .ok (.iload_n 1, 1) := by decide +kernel
theorem dfi2_3 : decode jdk_65_method_118_code 3 = .ok (.iload_n 2, 1) := by decide +kernel
theorem dfi2_4 : decode jdk_65_method_118_code 4 = .ok (.invokestatic 13, 3) := by decide +kernel
theorem dfi2_7 : decode jdk_65_method_118_code 7 = .ok (.iload_n 1, 1) := by decide +kernel
theorem dfi2_8 : decode jdk_65_method_118_code 8 = .ok (.istore 4, 2) := by decide +kernel
theorem dfi2_10 : decode jdk_65_method_118_code 10 = .ok (.iload 4, 2) := by decide +kernel
theorem dfi2_12 : decode jdk_65_method_118_code 12 = .ok (.iload_n 2, 1) := by decide +kernel
theorem dfi2_13 : decode jdk_65_method_118_code 13 = .ok (.if_icmp .ge 14, 3) := by decide +kernel
theorem dfi2_16 : decode jdk_65_method_118_code 16 = .ok (.aload_n 0, 1) := by decide +kernel
theorem dfi2_17 : decode jdk_65_method_118_code 17 = .ok (.iload 4, 2) := by decide +kernel
theorem dfi2_19 : decode jdk_65_method_118_code 19 = .ok (.aload_n 3, 1) := by decide +kernel
theorem dfi2_20 : decode jdk_65_method_118_code 20 = .ok (.aastore, 1) := by decide +kernel
theorem dfi2_21 : decode jdk_65_method_118_code 21 = .ok (.iinc 4 1, 3) := by decide +kernel
theorem dfi2_24 : decode jdk_65_method_118_code 24 = .ok (.goto (-14), 3) := by decide +kernel
theorem dfi2_27 : decode jdk_65_method_118_code 27 = .ok (.return_, 1) := by decide +kernel
theorem pnfi2 : plainName "java/util/Arrays" = true := by first | (simp [plainName, overriddenIn]; done) | decide +kernel
theorem effi2 (m : MethodId) (aW : Addr)  : entryFrame m #[(.ref aW), (.int (0 : Int32)), (.int (2 : Int32)), .null] 5 = mkF m 0 #[.val (.ref aW), .val (.int (0 : Int32)), .val (.int (2 : Int32)), .val .null, .unset] [] := by first | (simp [entryFrame, mkF, argsToLocals, Value.category]; done) | rfl
set_option maxRecDepth 65536 in
set_option maxHeartbeats 40000000 in
theorem rmfi2 (l : Launch) (Z : State) (a0 : Array Value) (hw : ∀ d ∈ tables_1, d.before a0 Z = true) (aW : Addr) (kW : ClassId) (ww : List Value) (h0 : Heap) (hE : Ext Z.heap h0) (g_aW : Z.heap.size ≤ aW) (YaW : OwnAry Z h0 aW kW (.array (.object "java/lang/Object")) ww) (lW : ww.length = 16) :
    OwnMeets l (⟨"java/util/Arrays", "fill", "([Ljava/lang/Object;IILjava/lang/Object;)V"⟩ : MethodName) jdk_65_method_118_code 5 none ({ frames := 1, cells := 0, slots := 0, locals := 14 } : Room) Z [aW] #[(.ref aW), (.int (0 : Int32)), (.int (2 : Int32)), .null] h0 (fun v h => v = none ∧ ∃ ww' : List Value, OwnAry Z h aW kW (.array (.object "java/lang/Object")) ww' ∧ ww'.length = 16) := by
  refine OwnMeets.of (plainFor_of_name pnfi2) hE (allS g_aW all0) ?_
  intro p e s m below meth c T C P
  have hx := C.1
  have hby := C.2.2.2.2.1
  rw [show entryFrame m #[(.ref aW), (.int (0 : Int32)), (.int (2 : Int32)), .null] 5 = _ from effi2 m aW]
  show OwnDone p e below _ (T.setTop (mkF m 0 #[.val (.ref aW), .val (.int (0 : Int32)), .val (.int (2 : Int32)), .val .null, .unset] []))
  refine OwnDone.go (A := (T.setTop (mkF m 4 #[.val (.ref aW), .val (.int (0 : Int32)), .val (.int (2 : Int32)), .val .null, .unset] [(.int (2 : Int32)), (.int (0 : Int32)), (.int (16 : Int32))]))) (fun tQ kQ => ?_) ?_
  · refine XS.aloadN P.here hx rfl (hb hby dfi2_0) rfl rfl ?_
    show Steps p.tables e below (T.setTop (mkF m 1 #[.val (.ref aW), .val (.int (0 : Int32)), .val (.int (2 : Int32)), .val .null, .unset] [(.ref aW)])) _
    refine own_alenN C P YaW lW dfi2_1 ?_
    show Steps p.tables e below (T.setTop (mkF m 2 #[.val (.ref aW), .val (.int (0 : Int32)), .val (.int (2 : Int32)), .val .null, .unset] [(.int (16 : Int32))])) _
    refine XS.iloadN P.here hx rfl (hb hby dfi2_2) rfl ?_
    show Steps p.tables e below (T.setTop (mkF m 3 #[.val (.ref aW), .val (.int (0 : Int32)), .val (.int (2 : Int32)), .val .null, .unset] [(.int (0 : Int32)), (.int (16 : Int32))])) _
    refine XS.iloadN P.here hx rfl (hb hby dfi2_3) rfl ?_
    show Steps p.tables e below (T.setTop (mkF m 4 #[.val (.ref aW), .val (.int (0 : Int32)), .val (.int (2 : Int32)), .val .null, .unset] [(.int (2 : Int32)), (.int (0 : Int32)), (.int (16 : Int32))])) _
    exact kQ
  show OwnDone p e below _ (T.setTop (mkF m 4 #[.val (.ref aW), .val (.int (0 : Int32)), .val (.int (2 : Int32)), .val .null, .unset] [(.int (2 : Int32)), (.int (0 : Int32)), (.int (16 : Int32))]))
  refine own_callS (y := (⟨"java/util/Arrays", "rangeCheck", "(III)V"⟩ : MethodName)) C P (hw _ (List.mem_of_getElem? (i := 70) rfl)) (hw _ (List.mem_of_getElem? (i := 71) rfl)) (hw _ (List.mem_of_getElem? (i := 68) rfl)) (hw _ (List.mem_of_getElem? (i := 72) rfl)) (by decide) (rmrc2 l Z a0 hw h0 P.old) (as := [(.int (16 : Int32)), (.int (0 : Int32)), (.int (2 : Int32))]) (rest := []) pd_1 rfl rfl (wd := 0) rfl rfl dfi2_4 all0 (by decide) (by decide) (by decide) (by decide) (fun T1 h1 v1 P1 K1 hQ1 => ?_)
  obtain ⟨rfl, rfl⟩ := hQ1
  show OwnDone p e below _ (T1.setTop (mkF m 7 #[.val (.ref aW), .val (.int (0 : Int32)), .val (.int (2 : Int32)), .val .null, .unset] []))
  refine OwnDone.go (A := (T1.setTop (mkF m 13 #[.val (.ref aW), .val (.int (0 : Int32)), .val (.int (2 : Int32)), .val .null, .val (.int (0 : Int32))] [(.int (2 : Int32)), (.int (0 : Int32))]))) (fun tQ kQ => ?_) ?_
  · refine XS.iloadN P1.here hx rfl (hb hby dfi2_7) rfl ?_
    show Steps p.tables e below (T1.setTop (mkF m 8 #[.val (.ref aW), .val (.int (0 : Int32)), .val (.int (2 : Int32)), .val .null, .unset] [(.int (0 : Int32))])) _
    refine XS.istore P1.here hx rfl (hb hby dfi2_8) rfl (l' := #[.val (.ref aW), .val (.int (0 : Int32)), .val (.int (2 : Int32)), .val .null, .val (.int (0 : Int32))]) rfl ?_
    show Steps p.tables e below (T1.setTop (mkF m 10 #[.val (.ref aW), .val (.int (0 : Int32)), .val (.int (2 : Int32)), .val .null, .val (.int (0 : Int32))] [])) _
    refine XS.iload P1.here hx rfl (hb hby dfi2_10) rfl ?_
    show Steps p.tables e below (T1.setTop (mkF m 12 #[.val (.ref aW), .val (.int (0 : Int32)), .val (.int (2 : Int32)), .val .null, .val (.int (0 : Int32))] [(.int (0 : Int32))])) _
    refine XS.iloadN P1.here hx rfl (hb hby dfi2_12) rfl ?_
    show Steps p.tables e below (T1.setTop (mkF m 13 #[.val (.ref aW), .val (.int (0 : Int32)), .val (.int (2 : Int32)), .val .null, .val (.int (0 : Int32))] [(.int (2 : Int32)), (.int (0 : Int32))])) _
    exact kQ
  show OwnDone p e below _ (T1.setTop (mkF m 13 #[.val (.ref aW), .val (.int (0 : Int32)), .val (.int (2 : Int32)), .val .null, .val (.int (0 : Int32))] [(.int (2 : Int32)), (.int (0 : Int32))]))
  refine OwnDone.go (A := (T1.setTop (mkF m 16 #[.val (.ref aW), .val (.int (0 : Int32)), .val (.int (2 : Int32)), .val .null, .val (.int (0 : Int32))] []))) (fun tQ kQ => XS.icmpNo P1.here hx rfl (hb hby dfi2_13) rfl (XT.ii_ge_f (by decide)) kQ) ?_
  show OwnDone p e below _ (T1.setTop (mkF m 16 #[.val (.ref aW), .val (.int (0 : Int32)), .val (.int (2 : Int32)), .val .null, .val (.int (0 : Int32))] []))
  refine OwnDone.go (A := (T1.setTop (mkF m 20 #[.val (.ref aW), .val (.int (0 : Int32)), .val (.int (2 : Int32)), .val .null, .val (.int (0 : Int32))] [.null, (.int (0 : Int32)), (.ref aW)]))) (fun tQ kQ => ?_) ?_
  · refine XS.aloadN P1.here hx rfl (hb hby dfi2_16) rfl rfl ?_
    show Steps p.tables e below (T1.setTop (mkF m 17 #[.val (.ref aW), .val (.int (0 : Int32)), .val (.int (2 : Int32)), .val .null, .val (.int (0 : Int32))] [(.ref aW)])) _
    refine XS.iload P1.here hx rfl (hb hby dfi2_17) rfl ?_
    show Steps p.tables e below (T1.setTop (mkF m 19 #[.val (.ref aW), .val (.int (0 : Int32)), .val (.int (2 : Int32)), .val .null, .val (.int (0 : Int32))] [(.int (0 : Int32)), (.ref aW)])) _
    refine XS.aloadN P1.here hx rfl (hb hby dfi2_19) rfl rfl ?_
    show Steps p.tables e below (T1.setTop (mkF m 20 #[.val (.ref aW), .val (.int (0 : Int32)), .val (.int (2 : Int32)), .val .null, .val (.int (0 : Int32))] [.null, (.int (0 : Int32)), (.ref aW)])) _
    exact kQ
  show OwnDone p e below _ (T1.setTop (mkF m 20 #[.val (.ref aW), .val (.int (0 : Int32)), .val (.int (2 : Int32)), .val .null, .val (.int (0 : Int32))] [.null, (.int (0 : Int32)), (.ref aW)]))
  refine own_aastore C P1 YaW rfl (by decide) (by rw [lW]; decide) (Or.inl rfl) (Or.inl (List.mem_of_getElem? (i := 0) rfl)) dfi2_20 (vs' := (ww.set 0 .null)) rfl (fun T2 h2 P2 K2 Y2 => ?_)
  have l2 : (ww.set 0 .null).length = 16 := by rw [List.length_set]; exact lW
  show OwnDone p e below _ (T2.setTop (mkF m 21 #[.val (.ref aW), .val (.int (0 : Int32)), .val (.int (2 : Int32)), .val .null, .val (.int (0 : Int32))] []))
  refine OwnDone.go (A := (T2.setTop (mkF m 13 #[.val (.ref aW), .val (.int (0 : Int32)), .val (.int (2 : Int32)), .val .null, .val (.int (1 : Int32))] [(.int (2 : Int32)), (.int (1 : Int32))]))) (fun tQ kQ => ?_) ?_
  · refine XS.iinc P2.here hx rfl (hb hby dfi2_21) rfl (l' := #[.val (.ref aW), .val (.int (0 : Int32)), .val (.int (2 : Int32)), .val .null, .val (.int (1 : Int32))]) rfl ?_
    show Steps p.tables e below (T2.setTop (mkF m 24 #[.val (.ref aW), .val (.int (0 : Int32)), .val (.int (2 : Int32)), .val .null, .val (.int (1 : Int32))] [])) _
    refine XS.goto P2.here hx rfl (pc0 := 24) (pc' := 10) rfl (hb hby dfi2_24) (by decide) (by decide) ?_
    show Steps p.tables e below (T2.setTop (mkF m 10 #[.val (.ref aW), .val (.int (0 : Int32)), .val (.int (2 : Int32)), .val .null, .val (.int (1 : Int32))] [])) _
    refine XS.iload P2.here hx rfl (hb hby dfi2_10) rfl ?_
    show Steps p.tables e below (T2.setTop (mkF m 12 #[.val (.ref aW), .val (.int (0 : Int32)), .val (.int (2 : Int32)), .val .null, .val (.int (1 : Int32))] [(.int (1 : Int32))])) _
    refine XS.iloadN P2.here hx rfl (hb hby dfi2_12) rfl ?_
    show Steps p.tables e below (T2.setTop (mkF m 13 #[.val (.ref aW), .val (.int (0 : Int32)), .val (.int (2 : Int32)), .val .null, .val (.int (1 : Int32))] [(.int (2 : Int32)), (.int (1 : Int32))])) _
    exact kQ
  show OwnDone p e below _ (T2.setTop (mkF m 13 #[.val (.ref aW), .val (.int (0 : Int32)), .val (.int (2 : Int32)), .val .null, .val (.int (1 : Int32))] [(.int (2 : Int32)), (.int (1 : Int32))]))
  refine OwnDone.go (A := (T2.setTop (mkF m 16 #[.val (.ref aW), .val (.int (0 : Int32)), .val (.int (2 : Int32)), .val .null, .val (.int (1 : Int32))] []))) (fun tQ kQ => XS.icmpNo P2.here hx rfl (hb hby dfi2_13) rfl (XT.ii_ge_f (by decide)) kQ) ?_
  show OwnDone p e below _ (T2.setTop (mkF m 16 #[.val (.ref aW), .val (.int (0 : Int32)), .val (.int (2 : Int32)), .val .null, .val (.int (1 : Int32))] []))
  refine OwnDone.go (A := (T2.setTop (mkF m 20 #[.val (.ref aW), .val (.int (0 : Int32)), .val (.int (2 : Int32)), .val .null, .val (.int (1 : Int32))] [.null, (.int (1 : Int32)), (.ref aW)]))) (fun tQ kQ => ?_) ?_
  · refine XS.aloadN P2.here hx rfl (hb hby dfi2_16) rfl rfl ?_
    show Steps p.tables e below (T2.setTop (mkF m 17 #[.val (.ref aW), .val (.int (0 : Int32)), .val (.int (2 : Int32)), .val .null, .val (.int (1 : Int32))] [(.ref aW)])) _
    refine XS.iload P2.here hx rfl (hb hby dfi2_17) rfl ?_
    show Steps p.tables e below (T2.setTop (mkF m 19 #[.val (.ref aW), .val (.int (0 : Int32)), .val (.int (2 : Int32)), .val .null, .val (.int (1 : Int32))] [(.int (1 : Int32)), (.ref aW)])) _
    refine XS.aloadN P2.here hx rfl (hb hby dfi2_19) rfl rfl ?_
    show Steps p.tables e below (T2.setTop (mkF m 20 #[.val (.ref aW), .val (.int (0 : Int32)), .val (.int (2 : Int32)), .val .null, .val (.int (1 : Int32))] [.null, (.int (1 : Int32)), (.ref aW)])) _
    exact kQ
  show OwnDone p e below _ (T2.setTop (mkF m 20 #[.val (.ref aW), .val (.int (0 : Int32)), .val (.int (2 : Int32)), .val .null, .val (.int (1 : Int32))] [.null, (.int (1 : Int32)), (.ref aW)]))
  refine own_aastore C P2 Y2 rfl (by decide) (by rw [l2]; decide) (Or.inl rfl) (Or.inl (List.mem_of_getElem? (i := 0) rfl)) dfi2_20 (vs' := ((ww.set 0 .null).set 1 .null)) rfl (fun T3 h3 P3 K3 Y3 => ?_)
  have l3 : ((ww.set 0 .null).set 1 .null).length = 16 := by rw [List.length_set]; exact l2
  show OwnDone p e below _ (T3.setTop (mkF m 21 #[.val (.ref aW), .val (.int (0 : Int32)), .val (.int (2 : Int32)), .val .null, .val (.int (1 : Int32))] []))
  refine OwnDone.go (A := (T3.setTop (mkF m 13 #[.val (.ref aW), .val (.int (0 : Int32)), .val (.int (2 : Int32)), .val .null, .val (.int (2 : Int32))] [(.int (2 : Int32)), (.int (2 : Int32))]))) (fun tQ kQ => ?_) ?_
  · refine XS.iinc P3.here hx rfl (hb hby dfi2_21) rfl (l' := #[.val (.ref aW), .val (.int (0 : Int32)), .val (.int (2 : Int32)), .val .null, .val (.int (2 : Int32))]) rfl ?_
    show Steps p.tables e below (T3.setTop (mkF m 24 #[.val (.ref aW), .val (.int (0 : Int32)), .val (.int (2 : Int32)), .val .null, .val (.int (2 : Int32))] [])) _
    refine XS.goto P3.here hx rfl (pc0 := 24) (pc' := 10) rfl (hb hby dfi2_24) (by decide) (by decide) ?_
    show Steps p.tables e below (T3.setTop (mkF m 10 #[.val (.ref aW), .val (.int (0 : Int32)), .val (.int (2 : Int32)), .val .null, .val (.int (2 : Int32))] [])) _
    refine XS.iload P3.here hx rfl (hb hby dfi2_10) rfl ?_
    show Steps p.tables e below (T3.setTop (mkF m 12 #[.val (.ref aW), .val (.int (0 : Int32)), .val (.int (2 : Int32)), .val .null, .val (.int (2 : Int32))] [(.int (2 : Int32))])) _
    refine XS.iloadN P3.here hx rfl (hb hby dfi2_12) rfl ?_
    show Steps p.tables e below (T3.setTop (mkF m 13 #[.val (.ref aW), .val (.int (0 : Int32)), .val (.int (2 : Int32)), .val .null, .val (.int (2 : Int32))] [(.int (2 : Int32)), (.int (2 : Int32))])) _
    exact kQ
  show OwnDone p e below _ (T3.setTop (mkF m 13 #[.val (.ref aW), .val (.int (0 : Int32)), .val (.int (2 : Int32)), .val .null, .val (.int (2 : Int32))] [(.int (2 : Int32)), (.int (2 : Int32))]))
  refine OwnDone.go (A := (T3.setTop (mkF m 27 #[.val (.ref aW), .val (.int (0 : Int32)), .val (.int (2 : Int32)), .val .null, .val (.int (2 : Int32))] []))) (fun tQ kQ => XS.icmpYes P3.here hx rfl (pc0 := 13) (pc' := 27) rfl (hb hby dfi2_13) rfl (XT.ii_ge_t (by decide)) (by decide) (by decide) kQ) ?_
  show OwnDone p e below _ (T3.setTop (mkF m 27 #[.val (.ref aW), .val (.int (0 : Int32)), .val (.int (2 : Int32)), .val .null, .val (.int (2 : Int32))] []))
  refine own_retV C P3 dfi2_27 (by decide) (by decide) ⟨rfl, _, Y3, l3⟩
theorem dcl2_0 : decode prog_95_method_2_code 0 = .ok (.aload_n 0, 1) := by decide +kernel
theorem dcl2_1 : decode prog_95_method_2_code 1 = .ok (.getfield 32, 3) := by decide +kernel
theorem dcl2_4 : decode prog_95_method_2_code 4 = .ok (.iconst 0, 1) := by decide +kernel
theorem dcl2_5 : decode prog_95_method_2_code 5 = .ok (.aload_n 0, 1) := by decide +kernel
theorem dcl2_6 : decode prog_95_method_2_code 6 = .ok (.getfield 39, 3) := by decide +kernel
theorem dcl2_9 : decode prog_95_method_2_code 9 = .ok (.aconst_null, 1) := by decide +kernel
theorem dcl2_10 : decode prog_95_method_2_code 10 = .ok (.invokestatic 43, 3) := by decide +kernel
theorem dcl2_13 : decode prog_95_method_2_code 13 = .ok (.aload_n 0, 1) := by decide +kernel
theorem dcl2_14 : decode prog_95_method_2_code 14 = .ok (.iconst 0, 1) := by decide +kernel
theorem dcl2_15 : decode prog_95_method_2_code 15 = .ok (.putfield 39, 3) := by decide +kernel
theorem dcl2_18 : decode prog_95_method_2_code 18 = .ok (.aload_n 0, 1) := by decide +kernel
theorem dcl2_19 : decode prog_95_method_2_code 19 = .ok (.iconst 0, 1) := by decide +kernel
theorem dcl2_20 : decode prog_95_method_2_code 20 = .ok (.putfield 49, 3) := by decide +kernel
theorem dcl2_23 : decode prog_95_method_2_code 23 = .ok (.aload_n 0, 1) := by decide +kernel
theorem dcl2_24 : decode prog_95_method_2_code 24 = .ok (.iconst 0, 1) := by decide +kernel
theorem dcl2_25 : decode prog_95_method_2_code 25 = .ok (.putfield 52, 3) := by decide +kernel
theorem dcl2_28 : decode prog_95_method_2_code 28 = .ok (.aload_n 0, 1) := by decide +kernel
theorem dcl2_29 : decode prog_95_method_2_code 29 = .ok (.aconst_null, 1) := by decide +kernel
theorem dcl2_30 : decode prog_95_method_2_code 30 = .ok (.putfield 55, 3) := by decide +kernel
theorem dcl2_33 : decode prog_95_method_2_code 33 = .ok (.aload_n 0, 1) := by decide +kernel
theorem dcl2_34 : decode prog_95_method_2_code 34 = .ok (.aconst_null, 1) := by decide +kernel
theorem dcl2_35 : decode prog_95_method_2_code 35 = .ok (.putfield 59, 3) := by decide +kernel
theorem dcl2_38 : decode prog_95_method_2_code 38 = .ok (.return_, 1) := by decide +kernel
theorem pncl2 : plainName "com/example/tidx/tidx/index/Run" = true := by first | (simp [plainName, overriddenIn]; done) | decide +kernel
theorem efcl2 (m : MethodId) (r : Addr)  : entryFrame m #[(.ref r)] 1 = mkF m 0 #[.val (.ref r)] [] := by first | (simp [entryFrame, mkF, argsToLocals, Value.category]; done) | rfl
set_option maxRecDepth 65536 in
set_option maxHeartbeats 40000000 in
theorem rmcl2 (l : Launch) (Z : State) (a0 : Array Value) (hw : ∀ d ∈ tables_1, d.before a0 Z = true) (r : Addr) (aR aV aF aT aO aW : Addr) (kW : ClassId) (vd sl sz : Int32) (ww : List Value) (h0 : Heap) (hE : Ext Z.heap h0) (g_r : Z.heap.size ≤ r) (g_aW : Z.heap.size ≤ aW) (Ob : OwnObj Z h0 r "com/example/tidx/tidx/index/Run" own_lay0 [(.ref aR), (.ref aV), (.ref aF), (.ref aT), (.ref aO), (.ref aW), (.int vd), (.int sl), (.int (2 : Int32)), (.int sz), .null, .null]) (YaW : OwnAry Z h0 aW kW (.array (.object "java/lang/Object")) ww) (lW : ww.length = 16) (lt0 : @LT.lt Nat _ r aW) :
    OwnMeets l (⟨"com/example/tidx/tidx/index/Run", "clear", "()V"⟩ : MethodName) prog_95_method_2_code 1 none ({ frames := 2, cells := 0, slots := 0, locals := 30 } : Room) Z [r, aW] #[(.ref r)] h0 (fun v h => v = none ∧ OwnObj Z h r "com/example/tidx/tidx/index/Run" own_lay0 [(.ref aR), (.ref aV), (.ref aF), (.ref aT), (.ref aO), (.ref aW), (.int vd), (.int (0 : Int32)), (.int (0 : Int32)), (.int (0 : Int32)), .null, .null] ∧ ∃ ww' : List Value, OwnAry Z h aW kW (.array (.object "java/lang/Object")) ww' ∧ ww'.length = 16) := by
  refine OwnMeets.of (plainFor_of_name pncl2) hE (allS g_r (allS g_aW all0)) ?_
  intro p e s m below meth c T C P
  have hx := C.1
  have hby := C.2.2.2.2.1
  rw [show entryFrame m #[(.ref r)] 1 = _ from efcl2 m r]
  show OwnDone p e below _ (T.setTop (mkF m 0 #[.val (.ref r)] []))
  refine OwnDone.go (A := (T.setTop (mkF m 1 #[.val (.ref r)] [(.ref r)]))) (fun tQ kQ => ?_) ?_
  · refine XS.aloadN P.here hx rfl (hb hby dcl2_0) rfl rfl ?_
    show Steps p.tables e below (T.setTop (mkF m 1 #[.val (.ref r)] [(.ref r)])) _
    exact kQ
  show OwnDone p e below _ (T.setTop (mkF m 1 #[.val (.ref r)] [(.ref r)]))
  refine own_getF C P (host := "") (Or.inl (hw _ (List.mem_of_getElem? (i := 30) rfl))) Via.refl (Ob.2 5 _ _ _ _ rfl rfl) dcl2_1 (fun T1 P1 => ?_)
  show OwnDone p e below _ (T1.setTop (mkF m 4 #[.val (.ref r)] [(.ref aW)]))
  refine OwnDone.go (A := (T1.setTop (mkF m 6 #[.val (.ref r)] [(.ref r), (.int (0 : Int32)), (.ref aW)]))) (fun tQ kQ => ?_) ?_
  · refine XS.iconst P1.here hx rfl (hb hby dcl2_4) ?_
    show Steps p.tables e below (T1.setTop (mkF m 5 #[.val (.ref r)] [(.int (0 : Int32)), (.ref aW)])) _
    refine XS.aloadN P1.here hx rfl (hb hby dcl2_5) rfl rfl ?_
    show Steps p.tables e below (T1.setTop (mkF m 6 #[.val (.ref r)] [(.ref r), (.int (0 : Int32)), (.ref aW)])) _
    exact kQ
  show OwnDone p e below _ (T1.setTop (mkF m 6 #[.val (.ref r)] [(.ref r), (.int (0 : Int32)), (.ref aW)]))
  refine own_getF C P1 (host := "") (Or.inl (hw _ (List.mem_of_getElem? (i := 50) rfl))) Via.refl (Ob.2 8 _ _ _ _ rfl rfl) dcl2_6 (fun T2 P2 => ?_)
  show OwnDone p e below _ (T2.setTop (mkF m 9 #[.val (.ref r)] [(.int (2 : Int32)), (.int (0 : Int32)), (.ref aW)]))
  refine OwnDone.go (A := (T2.setTop (mkF m 10 #[.val (.ref r)] [.null, (.int (2 : Int32)), (.int (0 : Int32)), (.ref aW)]))) (fun tQ kQ => ?_) ?_
  · refine XS.aconstNull P2.here hx rfl (hb hby dcl2_9) ?_
    show Steps p.tables e below (T2.setTop (mkF m 10 #[.val (.ref r)] [.null, (.int (2 : Int32)), (.int (0 : Int32)), (.ref aW)])) _
    exact kQ
  show OwnDone p e below _ (T2.setTop (mkF m 10 #[.val (.ref r)] [.null, (.int (2 : Int32)), (.int (0 : Int32)), (.ref aW)]))
  refine own_callS (y := (⟨"java/util/Arrays", "fill", "([Ljava/lang/Object;IILjava/lang/Object;)V"⟩ : MethodName)) C P2 (hw _ (List.mem_of_getElem? (i := 66) rfl)) (hw _ (List.mem_of_getElem? (i := 67) rfl)) (hw _ (List.mem_of_getElem? (i := 68) rfl)) (hw _ (List.mem_of_getElem? (i := 69) rfl)) (by decide) (rmfi2 l Z a0 hw aW kW ww h0 P2.old g_aW YaW lW) (as := [(.ref aW), (.int (0 : Int32)), (.int (2 : Int32)), .null]) (rest := []) pd_2 rfl rfl (wd := 0) rfl rfl dcl2_10 (allS (Or.inl (List.mem_of_getElem? (i := 1) rfl)) all0) (by decide) (by decide) (by decide) (by decide) (fun T3 h3 v3 P3 K3 hQ3 => ?_)
  obtain ⟨rfl, ww3, YaW3, lW3⟩ := hQ3
  have O4_r := Ob.keep K3 (ninS (own_neL (by omega)) nin0)
  show OwnDone p e below _ (T3.setTop (mkF m 13 #[.val (.ref r)] []))
  refine OwnDone.go (A := (T3.setTop (mkF m 15 #[.val (.ref r)] [(.int (0 : Int32)), (.ref r)]))) (fun tQ kQ => ?_) ?_
  · refine XS.aloadN P3.here hx rfl (hb hby dcl2_13) rfl rfl ?_
    show Steps p.tables e below (T3.setTop (mkF m 14 #[.val (.ref r)] [(.ref r)])) _
    refine XS.iconst P3.here hx rfl (hb hby dcl2_14) ?_
    show Steps p.tables e below (T3.setTop (mkF m 15 #[.val (.ref r)] [(.int (0 : Int32)), (.ref r)])) _
    exact kQ
  show OwnDone p e below _ (T3.setTop (mkF m 15 #[.val (.ref r)] [(.int (0 : Int32)), (.ref r)]))
  refine own_putO (ty := .int) C P3 (hw _ (List.mem_of_getElem? (i := 50) rfl)) Via.refl O4_r (own_laid0 hw) 8 rfl rfl (Or.inl (hw _ (List.mem_of_getElem? (i := 51) rfl))) (hw _ (List.mem_of_getElem? (i := 7) rfl)) (by decide) rfl rfl (Or.inl (List.mem_of_getElem? (i := 0) rfl)) dcl2_15 (vs' := [(.ref aR), (.ref aV), (.ref aF), (.ref aT), (.ref aO), (.ref aW), (.int vd), (.int sl), (.int (0 : Int32)), (.int sz), .null, .null]) rfl (fun T5 h5 P5 K5 O5 => ?_)
  have Y6_aW := YaW3.keep K5 (ninS (own_neL (by omega)) nin0)
  show OwnDone p e below _ (T5.setTop (mkF m 18 #[.val (.ref r)] []))
  refine OwnDone.go (A := (T5.setTop (mkF m 20 #[.val (.ref r)] [(.int (0 : Int32)), (.ref r)]))) (fun tQ kQ => ?_) ?_
  · refine XS.aloadN P5.here hx rfl (hb hby dcl2_18) rfl rfl ?_
    show Steps p.tables e below (T5.setTop (mkF m 19 #[.val (.ref r)] [(.ref r)])) _
    refine XS.iconst P5.here hx rfl (hb hby dcl2_19) ?_
    show Steps p.tables e below (T5.setTop (mkF m 20 #[.val (.ref r)] [(.int (0 : Int32)), (.ref r)])) _
    exact kQ
  show OwnDone p e below _ (T5.setTop (mkF m 20 #[.val (.ref r)] [(.int (0 : Int32)), (.ref r)]))
  refine own_putO (ty := .int) C P5 (hw _ (List.mem_of_getElem? (i := 39) rfl)) Via.refl O5 (own_laid0 hw) 7 rfl rfl (Or.inl (hw _ (List.mem_of_getElem? (i := 40) rfl))) (hw _ (List.mem_of_getElem? (i := 7) rfl)) (by decide) rfl rfl (Or.inl (List.mem_of_getElem? (i := 0) rfl)) dcl2_20 (vs' := [(.ref aR), (.ref aV), (.ref aF), (.ref aT), (.ref aO), (.ref aW), (.int vd), (.int (0 : Int32)), (.int (0 : Int32)), (.int sz), .null, .null]) rfl (fun T7 h7 P7 K7 O7 => ?_)
  have Y8_aW := Y6_aW.keep K7 (ninS (own_neL (by omega)) nin0)
  show OwnDone p e below _ (T7.setTop (mkF m 23 #[.val (.ref r)] []))
  refine OwnDone.go (A := (T7.setTop (mkF m 25 #[.val (.ref r)] [(.int (0 : Int32)), (.ref r)]))) (fun tQ kQ => ?_) ?_
  · refine XS.aloadN P7.here hx rfl (hb hby dcl2_23) rfl rfl ?_
    show Steps p.tables e below (T7.setTop (mkF m 24 #[.val (.ref r)] [(.ref r)])) _
    refine XS.iconst P7.here hx rfl (hb hby dcl2_24) ?_
    show Steps p.tables e below (T7.setTop (mkF m 25 #[.val (.ref r)] [(.int (0 : Int32)), (.ref r)])) _
    exact kQ
  show OwnDone p e below _ (T7.setTop (mkF m 25 #[.val (.ref r)] [(.int (0 : Int32)), (.ref r)]))
  refine own_putO (ty := .int) C P7 (hw _ (List.mem_of_getElem? (i := 52) rfl)) Via.refl O7 (own_laid0 hw) 9 rfl rfl (Or.inl (hw _ (List.mem_of_getElem? (i := 53) rfl))) (hw _ (List.mem_of_getElem? (i := 7) rfl)) (by decide) rfl rfl (Or.inl (List.mem_of_getElem? (i := 0) rfl)) dcl2_25 (vs' := [(.ref aR), (.ref aV), (.ref aF), (.ref aT), (.ref aO), (.ref aW), (.int vd), (.int (0 : Int32)), (.int (0 : Int32)), (.int (0 : Int32)), .null, .null]) rfl (fun T9 h9 P9 K9 O9 => ?_)
  have Y10_aW := Y8_aW.keep K9 (ninS (own_neL (by omega)) nin0)
  show OwnDone p e below _ (T9.setTop (mkF m 28 #[.val (.ref r)] []))
  refine OwnDone.go (A := (T9.setTop (mkF m 30 #[.val (.ref r)] [.null, (.ref r)]))) (fun tQ kQ => ?_) ?_
  · refine XS.aloadN P9.here hx rfl (hb hby dcl2_28) rfl rfl ?_
    show Steps p.tables e below (T9.setTop (mkF m 29 #[.val (.ref r)] [(.ref r)])) _
    refine XS.aconstNull P9.here hx rfl (hb hby dcl2_29) ?_
    show Steps p.tables e below (T9.setTop (mkF m 30 #[.val (.ref r)] [.null, (.ref r)])) _
    exact kQ
  show OwnDone p e below _ (T9.setTop (mkF m 30 #[.val (.ref r)] [.null, (.ref r)]))
  refine own_putO (ty := (.array .long)) C P9 (hw _ (List.mem_of_getElem? (i := 73) rfl)) Via.refl O9 (own_laid0 hw) 10 rfl rfl (Or.inl (hw _ (List.mem_of_getElem? (i := 74) rfl))) (hw _ (List.mem_of_getElem? (i := 7) rfl)) (by decide) rfl rfl (Or.inl (List.mem_of_getElem? (i := 0) rfl)) dcl2_30 (vs' := [(.ref aR), (.ref aV), (.ref aF), (.ref aT), (.ref aO), (.ref aW), (.int vd), (.int (0 : Int32)), (.int (0 : Int32)), (.int (0 : Int32)), .null, .null]) rfl (fun T11 h11 P11 K11 O11 => ?_)
  have Y12_aW := Y10_aW.keep K11 (ninS (own_neL (by omega)) nin0)
  show OwnDone p e below _ (T11.setTop (mkF m 33 #[.val (.ref r)] []))
  refine OwnDone.go (A := (T11.setTop (mkF m 35 #[.val (.ref r)] [.null, (.ref r)]))) (fun tQ kQ => ?_) ?_
  · refine XS.aloadN P11.here hx rfl (hb hby dcl2_33) rfl rfl ?_
    show Steps p.tables e below (T11.setTop (mkF m 34 #[.val (.ref r)] [(.ref r)])) _
    refine XS.aconstNull P11.here hx rfl (hb hby dcl2_34) ?_
    show Steps p.tables e below (T11.setTop (mkF m 35 #[.val (.ref r)] [.null, (.ref r)])) _
    exact kQ
  show OwnDone p e below _ (T11.setTop (mkF m 35 #[.val (.ref r)] [.null, (.ref r)]))
  refine own_putO (ty := (.array .int)) C P11 (hw _ (List.mem_of_getElem? (i := 75) rfl)) Via.refl O11 (own_laid0 hw) 11 rfl rfl (Or.inl (hw _ (List.mem_of_getElem? (i := 76) rfl))) (hw _ (List.mem_of_getElem? (i := 7) rfl)) (by decide) rfl rfl (Or.inl (List.mem_of_getElem? (i := 0) rfl)) dcl2_35 (vs' := [(.ref aR), (.ref aV), (.ref aF), (.ref aT), (.ref aO), (.ref aW), (.int vd), (.int (0 : Int32)), (.int (0 : Int32)), (.int (0 : Int32)), .null, .null]) rfl (fun T13 h13 P13 K13 O13 => ?_)
  have Y14_aW := Y12_aW.keep K13 (ninS (own_neL (by omega)) nin0)
  show OwnDone p e below _ (T13.setTop (mkF m 38 #[.val (.ref r)] []))
  refine own_retV C P13 dcl2_38 (by decide) (by decide) ⟨rfl, O13, _, Y14_aW, lW3⟩
theorem dst_0 : decode method_3_code 0 = .ok (.iload_n 1, 1) := by decide +kernel
theorem dst_1 : decode method_3_code 1 = .ok (.iconst 3, 1) := by decide +kernel
theorem dst_2 : decode method_3_code 2 = .ok (.iand, 1) := by decide +kernel
theorem dst_3 : decode method_3_code 3 = .ok (.istore 7, 2) := by decide +kernel
theorem dst_5 : decode method_3_code 5 = .ok (.iload 7, 2) := by decide +kernel
theorem dst_7 : decode method_3_code 7 = .ok (.ifCond .eq 9, 3) := by decide +kernel
theorem dst_10 : decode method_3_code 10 = .ok (.iload 7, 2) := by decide +kernel
theorem dst_12 : decode method_3_code 12 = .ok (.iconst 3, 1) := by decide +kernel
theorem dst_13 : decode method_3_code 13 = .ok (.if_icmp .ne 30, 3) := by decide +kernel
theorem dst_16 : decode method_3_code 16 = .ok (.aload_n 0, 1) := by decide +kernel
theorem dst_17 : decode method_3_code 17 = .ok (.iload_n 2, 1) := by decide +kernel
theorem dst_18 : decode method_3_code 18 = .ok (.aload 6, 2) := by decide +kernel
theorem dst_20 : decode method_3_code 20 = .ok (.invokevirtual 24, 3) := by decide +kernel
theorem dst_23 : decode method_3_code 23 = .ok (.aload_n 3, 1) := by decide +kernel
theorem dst_24 : decode method_3_code 24 = .ok (.iconst 1, 1) := by decide +kernel
theorem dst_25 : decode method_3_code 25 = .ok (.aaload, 1) := by decide +kernel
theorem dst_26 : decode method_3_code 26 = .ok (.ifnonnull 8, 3) := by decide +kernel
theorem dst_29 : decode method_3_code 29 = .ok (.aload_n 3, 1) := by decide +kernel
theorem dst_30 : decode method_3_code 30 = .ok (.iconst 1, 1) := by decide +kernel
theorem dst_31 : decode method_3_code 31 = .ok (.aload 6, 2) := by decide +kernel
theorem dst_33 : decode method_3_code 33 = .ok (.aastore, 1) := by decide +kernel
theorem dst_34 : decode method_3_code 34 = .ok (.aload_n 3, 1) := by decide +kernel
theorem dst_35 : decode method_3_code 35 = .ok (.iconst 0, 1) := by decide +kernel
theorem dst_36 : decode method_3_code 36 = .ok (.aload_n 3, 1) := by decide +kernel
theorem dst_37 : decode method_3_code 37 = .ok (.iconst 1, 1) := by decide +kernel
theorem dst_38 : decode method_3_code 38 = .ok (.aaload, 1) := by decide +kernel
theorem dst_39 : decode method_3_code 39 = .ok (.aastore, 1) := by decide +kernel
theorem dst_40 : decode method_3_code 40 = .ok (.goto 76, 3) := by decide +kernel
theorem dst_43 : decode method_3_code 43 = .ok (.iload 7, 2) := by decide +kernel
theorem dst_45 : decode method_3_code 45 = .ok (.iconst 1, 1) := by decide +kernel
theorem dst_46 : decode method_3_code 46 = .ok (.if_icmp .ne 58, 3) := by decide +kernel
theorem dst_49 : decode method_3_code 49 = .ok (.iload_n 1, 1) := by decide +kernel
theorem dst_50 : decode method_3_code 50 = .ok (.iconst 2, 1) := by decide +kernel
theorem dst_51 : decode method_3_code 51 = .ok (.iushr, 1) := by decide +kernel
theorem dst_52 : decode method_3_code 52 = .ok (.iconst 3, 1) := by decide +kernel
theorem dst_53 : decode method_3_code 53 = .ok (.iand, 1) := by decide +kernel
theorem dst_54 : decode method_3_code 54 = .ok (.istore 8, 2) := by decide +kernel
theorem dst_56 : decode method_3_code 56 = .ok (.iload_n 1, 1) := by decide +kernel
theorem dst_57 : decode method_3_code 57 = .ok (.iconst 4, 1) := by decide +kernel
theorem dst_58 : decode method_3_code 58 = .ok (.iushr, 1) := by decide +kernel
theorem dst_59 : decode method_3_code 59 = .ok (.bipush 7, 2) := by decide +kernel
theorem dst_61 : decode method_3_code 61 = .ok (.iand, 1) := by decide +kernel
theorem dst_62 : decode method_3_code 62 = .ok (.iconst 4, 1) := by decide +kernel
theorem dst_63 : decode method_3_code 63 = .ok (.invokestatic 28, 3) := by decide +kernel
theorem dst_66 : decode method_3_code 66 = .ok (.istore 9, 2) := by decide +kernel
theorem dst_68 : decode method_3_code 68 = .ok (.aload_n 0, 1) := by decide +kernel
theorem dst_69 : decode method_3_code 69 = .ok (.aload 4, 2) := by decide +kernel
theorem dst_71 : decode method_3_code 71 = .ok (.aload 5, 2) := by decide +kernel
theorem dst_73 : decode method_3_code 73 = .ok (.iload 8, 2) := by decide +kernel
theorem dst_75 : decode method_3_code 75 = .ok (.iload 9, 2) := by decide +kernel
theorem dst_77 : decode method_3_code 77 = .ok (.invokevirtual 34, 3) := by decide +kernel
theorem dst_80 : decode method_3_code 80 = .ok (.iload 8, 2) := by decide +kernel
theorem dst_82 : decode method_3_code 82 = .ok (.iload 9, 2) := by decide +kernel
theorem dst_84 : decode method_3_code 84 = .ok (.if_icmp .ge 17, 3) := by decide +kernel
theorem dst_87 : decode method_3_code 87 = .ok (.aload_n 3, 1) := by decide +kernel
theorem dst_88 : decode method_3_code 88 = .ok (.iconst 0, 1) := by decide +kernel
theorem dst_89 : decode method_3_code 89 = .ok (.aaload, 1) := by decide +kernel
theorem dst_90 : decode method_3_code 90 = .ok (.ifnonnull 11, 3) := by decide +kernel
theorem dst_93 : decode method_3_code 93 = .ok (.aload_n 3, 1) := by decide +kernel
theorem dst_94 : decode method_3_code 94 = .ok (.iconst 0, 1) := by decide +kernel
theorem dst_95 : decode method_3_code 95 = .ok (.aload 5, 2) := by decide +kernel
theorem dst_97 : decode method_3_code 97 = .ok (.iload 8, 2) := by decide +kernel
theorem dst_99 : decode method_3_code 99 = .ok (.aaload, 1) := by decide +kernel
theorem dst_100 : decode method_3_code 100 = .ok (.aastore, 1) := by decide +kernel
theorem dst_101 : decode method_3_code 101 = .ok (.goto 15, 3) := by decide +kernel
theorem dst_104 : decode method_3_code 104 = .ok (.aload_n 0, 1) := by decide +kernel
theorem dst_105 : decode method_3_code 105 = .ok (.invokevirtual 37, 3) := by decide +kernel
theorem dst_108 : decode method_3_code 108 = .ok (.aload_n 3, 1) := by decide +kernel
theorem dst_109 : decode method_3_code 109 = .ok (.iconst 0, 1) := by decide +kernel
theorem dst_110 : decode method_3_code 110 = .ok (.aconst_null, 1) := by decide +kernel
theorem dst_111 : decode method_3_code 111 = .ok (.aastore, 1) := by decide +kernel
theorem dst_112 : decode method_3_code 112 = .ok (.aload_n 3, 1) := by decide +kernel
theorem dst_113 : decode method_3_code 113 = .ok (.iconst 1, 1) := by decide +kernel
theorem dst_114 : decode method_3_code 114 = .ok (.aconst_null, 1) := by decide +kernel
theorem dst_115 : decode method_3_code 115 = .ok (.aastore, 1) := by decide +kernel
theorem dst_116 : decode method_3_code 116 = .ok (.aload_n 0, 1) := by decide +kernel
theorem dst_117 : decode method_3_code 117 = .ok (.invokevirtual 14, 3) := by decide +kernel
theorem dst_120 : decode method_3_code 120 = .ok (.aload_n 3, 1) := by decide +kernel
theorem dst_121 : decode method_3_code 121 = .ok (.iconst 0, 1) := by decide +kernel
theorem dst_122 : decode method_3_code 122 = .ok (.aaload, 1) := by decide +kernel
theorem dst_123 : decode method_3_code 123 = .ok (.if_acmp .ne 7, 3) := by decide +kernel
theorem dst_126 : decode method_3_code 126 = .ok (.iconst 1, 1) := by decide +kernel
theorem dst_127 : decode method_3_code 127 = .ok (.goto 4, 3) := by decide +kernel
theorem dst_131 : decode method_3_code 131 = .ok (.ireturn, 1) := by decide +kernel
theorem pnst : plainName "com/example/tidx/tidx/index/RunFirstPinLaw" = true := by first | (simp [plainName, overriddenIn]; done) | decide +kernel
theorem efst (m : MethodId) (r : Addr) (k1 : Int32) (x2 : Int32) (st : Addr) (nu : Addr) (en : Addr) (oa : Addr)  : entryFrame m #[(.ref r), (.int k1), (.int x2), (.ref st), (.ref nu), (.ref en), (.ref oa)] 10 = mkF m 0 #[.val (.ref r), .val (.int k1), .val (.int x2), .val (.ref st), .val (.ref nu), .val (.ref en), .val (.ref oa), .unset, .unset, .unset] [] := by first | (simp [entryFrame, mkF, argsToLocals, Value.category]; done) | rfl
set_option maxRecDepth 65536 in
set_option maxHeartbeats 40000000 in
theorem rmst (l : Launch) (Z : State) (a0 : Array Value) (hw : ∀ d ∈ tables_1, d.before a0 Z = true) (r : Addr) (k1 : Int32) (x2 : Int32) (st : Addr) (nu : Addr) (en : Addr) (oa : Addr) (aR aV aF aT aO aW : Addr) (kR kV kF kT kO kW kS kE : ClassId) (e0 e1 e2 e3 : Addr) (n : Int) (h0 : Heap) (hE : Ext Z.heap h0) (g_st : Z.heap.size ≤ st) (g_r : Z.heap.size ≤ r) (g_aR : Z.heap.size ≤ aR) (g_aV : Z.heap.size ≤ aV) (g_aF : Z.heap.size ≤ aF) (g_aT : Z.heap.size ≤ aT) (g_aO : Z.heap.size ≤ aO) (g_aW : Z.heap.size ≤ aW) (hn : n ≤ 2) (I0 : own_Inv Z h0 r aR aV aF aT aO aW st en kR kV kF kT kO kW kS kE e0 e1 e2 e3 n) (lx : @LT.lt Nat _ oa en) (lt0 : @LT.lt Nat _ en nu) (lt1 : @LT.lt Nat _ nu st) (lt2 : @LT.lt Nat _ st r) (lt3 : @LT.lt Nat _ r aR) (lt4 : @LT.lt Nat _ aR aV) (lt5 : @LT.lt Nat _ aV aF) (lt6 : @LT.lt Nat _ aF aT) (lt7 : @LT.lt Nat _ aT aO) (lt8 : @LT.lt Nat _ aO aW) (VR : OvrA Z kR .int "[I") (VV : OvrA Z kV (.array (.object "java/lang/Object")) "[[Ljava/lang/Object;") (VW : OvrA Z kW (.object "java/lang/Object") "[Ljava/lang/Object;") (NO : Z.vm.findClass "[I" = some kO) (NW : Z.vm.findClass "[[Ljava/lang/Object;" = some kW) (VS : Ovr Z kS "java/lang/Object") (In : Ins Z h0 nu "[I" true) (Ie : Ins Z h0 en "[[Ljava/lang/Object;" true) (Ia : Ins Z h0 oa "[Ljava/lang/Object;" true) (Ib : Ins Z h0 oa "java/lang/Object" true) (Ie0 : Ins Z h0 e0 "java/lang/Object" true) (Ie1 : Ins Z h0 e1 "java/lang/Object" true) (Ie2 : Ins Z h0 e2 "java/lang/Object" true) (Ie3 : Ins Z h0 e3 "java/lang/Object" true) :
    OwnMeets l (⟨"com/example/tidx/tidx/index/RunFirstPinLaw", "step", "(Lcom/example/tidx/tidx/index/Run;II[Ljava/lang/Object;[I[[Ljava/lang/Object;[Ljava/lang/Object;)Z"⟩ : MethodName) method_3_code 10 (some .boolean) ({ frames := 3, cells := 0, slots := 0, locals := 42 } : Room) Z [st, r, aR, aV, aF, aT, aO, aW] #[(.ref r), (.int k1), (.int x2), (.ref st), (.ref nu), (.ref en), (.ref oa)] h0 (fun v h => v = some (.int 1) ∧ own_Inv Z h r aR aV aF aT aO aW st en kR kV kF kT kO kW kS kE e0 e1 e2 e3 (n + 1)) := by
  refine OwnMeets.of (plainFor_of_name pnst) hE (allS g_st (allS g_r (allS g_aR (allS g_aV (allS g_aF (allS g_aT (allS g_aO (allS g_aW all0)))))))) ?_
  intro p e s m below meth c T C P
  have hx := C.1
  have hby := C.2.2.2.2.1
  rw [show entryFrame m #[(.ref r), (.int k1), (.int x2), (.ref st), (.ref nu), (.ref en), (.ref oa)] 10 = _ from efst m r k1 x2 st nu en oa]
  obtain ⟨vd, sl, ow, sz, rr, vv, ff, tt, oo, ww, s0, s1, Ob, YaR, YaV, YaF, YaT, YaO, YaW, Yst, Yen, ⟨lR, lV, lF, lT, lO, lW⟩, bs, bo, I1, I0⟩ := I0
  obtain ⟨s1_, s2_⟩ := own_bnd (k := 4) bs (by omega)
  obtain ⟨o1_, o2_⟩ := own_bnd (k := 16) bo (by omega)
  show OwnDone p e below _ (T.setTop (mkF m 0 #[.val (.ref r), .val (.int k1), .val (.int x2), .val (.ref st), .val (.ref nu), .val (.ref en), .val (.ref oa), .unset, .unset, .unset] []))
  refine OwnDone.go (A := (T.setTop (mkF m 7 #[.val (.ref r), .val (.int k1), .val (.int x2), .val (.ref st), .val (.ref nu), .val (.ref en), .val (.ref oa), .val (.int (k1 &&& (3 : Int32))), .unset, .unset] [(.int (k1 &&& (3 : Int32)))]))) (fun tQ kQ => ?_) ?_
  · refine XS.iloadN P.here hx rfl (hb hby dst_0) rfl ?_
    show Steps p.tables e below (T.setTop (mkF m 1 #[.val (.ref r), .val (.int k1), .val (.int x2), .val (.ref st), .val (.ref nu), .val (.ref en), .val (.ref oa), .unset, .unset, .unset] [(.int k1)])) _
    refine XS.iconst P.here hx rfl (hb hby dst_1) ?_
    show Steps p.tables e below (T.setTop (mkF m 2 #[.val (.ref r), .val (.int k1), .val (.int x2), .val (.ref st), .val (.ref nu), .val (.ref en), .val (.ref oa), .unset, .unset, .unset] [(.int (3 : Int32)), (.int k1)])) _
    refine XS.iand P.here hx rfl (hb hby dst_2) rfl ?_
    show Steps p.tables e below (T.setTop (mkF m 3 #[.val (.ref r), .val (.int k1), .val (.int x2), .val (.ref st), .val (.ref nu), .val (.ref en), .val (.ref oa), .unset, .unset, .unset] [(.int (k1 &&& (3 : Int32)))])) _
    refine XS.istore P.here hx rfl (hb hby dst_3) rfl (l' := #[.val (.ref r), .val (.int k1), .val (.int x2), .val (.ref st), .val (.ref nu), .val (.ref en), .val (.ref oa), .val (.int (k1 &&& (3 : Int32))), .unset, .unset]) rfl ?_
    show Steps p.tables e below (T.setTop (mkF m 5 #[.val (.ref r), .val (.int k1), .val (.int x2), .val (.ref st), .val (.ref nu), .val (.ref en), .val (.ref oa), .val (.int (k1 &&& (3 : Int32))), .unset, .unset] [])) _
    refine XS.iload P.here hx rfl (hb hby dst_5) rfl ?_
    show Steps p.tables e below (T.setTop (mkF m 7 #[.val (.ref r), .val (.int k1), .val (.int x2), .val (.ref st), .val (.ref nu), .val (.ref en), .val (.ref oa), .val (.int (k1 &&& (3 : Int32))), .unset, .unset] [(.int (k1 &&& (3 : Int32)))])) _
    exact kQ
  show OwnDone p e below _ (T.setTop (mkF m 7 #[.val (.ref r), .val (.int k1), .val (.int x2), .val (.ref st), .val (.ref nu), .val (.ref en), .val (.ref oa), .val (.int (k1 &&& (3 : Int32))), .unset, .unset] [(.int (k1 &&& (3 : Int32)))]))
  by_cases hc7 : (k1 &&& (3 : Int32)) = (0 : Int32)
  · refine OwnDone.go (A := (T.setTop (mkF m 16 #[.val (.ref r), .val (.int k1), .val (.int x2), .val (.ref st), .val (.ref nu), .val (.ref en), .val (.ref oa), .val (.int (k1 &&& (3 : Int32))), .unset, .unset] []))) (fun tQ kQ => XS.ifYes P.here hx rfl (pc0 := 7) (pc' := 16) rfl (hb hby dst_7) rfl (XT.i0_eq_t hc7) (by decide) (by decide) kQ) ?_
    show OwnDone p e below _ (T.setTop (mkF m 16 #[.val (.ref r), .val (.int k1), .val (.int x2), .val (.ref st), .val (.ref nu), .val (.ref en), .val (.ref oa), .val (.int (k1 &&& (3 : Int32))), .unset, .unset] []))
    rcases I1 with I1 | I1
    · obtain ⟨i1, rfl⟩ := I1
      show OwnDone p e below _ (T.setTop (mkF m 16 #[.val (.ref r), .val (.int k1), .val (.int x2), .val (.ref st), .val (.ref nu), .val (.ref en), .val (.ref oa), .val (.int (k1 &&& (3 : Int32))), .unset, .unset] []))
      refine OwnDone.go (A := (T.setTop (mkF m 20 #[.val (.ref r), .val (.int k1), .val (.int x2), .val (.ref st), .val (.ref nu), .val (.ref en), .val (.ref oa), .val (.int (k1 &&& (3 : Int32))), .unset, .unset] [(.ref oa), (.int x2), (.ref r)]))) (fun tQ kQ => ?_) ?_
      · refine XS.aloadN P.here hx rfl (hb hby dst_16) rfl rfl ?_
        show Steps p.tables e below (T.setTop (mkF m 17 #[.val (.ref r), .val (.int k1), .val (.int x2), .val (.ref st), .val (.ref nu), .val (.ref en), .val (.ref oa), .val (.int (k1 &&& (3 : Int32))), .unset, .unset] [(.ref r)])) _
        refine XS.iloadN P.here hx rfl (hb hby dst_17) rfl ?_
        show Steps p.tables e below (T.setTop (mkF m 18 #[.val (.ref r), .val (.int k1), .val (.int x2), .val (.ref st), .val (.ref nu), .val (.ref en), .val (.ref oa), .val (.int (k1 &&& (3 : Int32))), .unset, .unset] [(.int x2), (.ref r)])) _
        refine XS.aload P.here hx rfl (hb hby dst_18) rfl rfl ?_
        show Steps p.tables e below (T.setTop (mkF m 20 #[.val (.ref r), .val (.int k1), .val (.int x2), .val (.ref st), .val (.ref nu), .val (.ref en), .val (.ref oa), .val (.int (k1 &&& (3 : Int32))), .unset, .unset] [(.ref oa), (.int x2), (.ref r)])) _
        exact kQ
      show OwnDone p e below _ (T.setTop (mkF m 20 #[.val (.ref r), .val (.int k1), .val (.int x2), .val (.ref st), .val (.ref nu), .val (.ref en), .val (.ref oa), .val (.int (k1 &&& (3 : Int32))), .unset, .unset] [(.ref oa), (.int x2), (.ref r)]))
      refine own_callV (y := (⟨"com/example/tidx/tidx/index/Run", "add", "(I[Ljava/lang/Object;)V"⟩ : MethodName)) (z := (⟨"com/example/tidx/tidx/index/Run", "add", "(I[Ljava/lang/Object;)V"⟩ : MethodName)) (CC := "com/example/tidx/tidx/index/Run") C P Ob.1 (hw _ (List.mem_of_getElem? (i := 45) rfl)) (hw _ (List.mem_of_getElem? (i := 46) rfl)) (hw _ (List.mem_of_getElem? (i := 48) rfl)) (hw _ (List.mem_of_getElem? (i := 48) rfl)) (hw _ (List.mem_of_getElem? (i := 47) rfl)) (hw _ (List.mem_of_getElem? (i := 8) rfl)) (hw _ (List.mem_of_getElem? (i := 49) rfl)) (by decide) (rmad l Z a0 hw r x2 oa aR aV aF aT aO aW kR kV kF kT kO kW vd sl ow sz rr vv ff tt oo ww h0 P.old g_r g_aR g_aV g_aF g_aT g_aO g_aW Ob YaR lR YaV lV YaF lF YaT lT YaO lO YaW lW (by omega) (by omega) (by omega) (by omega) (by omega) (by omega) o1_ o2_ Ia VR VV VW NO NW) (as := [(.int x2), (.ref oa)]) (rest := []) pd_3 rfl rfl (wd := 0) rfl rfl dst_20 (allS (Or.inl (List.mem_of_getElem? (i := 1) rfl)) (allS (Or.inl (List.mem_of_getElem? (i := 2) rfl)) (allS (Or.inl (List.mem_of_getElem? (i := 3) rfl)) (allS (Or.inl (List.mem_of_getElem? (i := 4) rfl)) (allS (Or.inl (List.mem_of_getElem? (i := 5) rfl)) (allS (Or.inl (List.mem_of_getElem? (i := 6) rfl)) (allS (Or.inl (List.mem_of_getElem? (i := 7) rfl)) all0))))))) (by decide) (by decide) (by decide) (by decide) (fun T1 h1 v1 P1 K1 hQ1 => ?_)
      obtain ⟨rfl, Ob1, YaR1, YaV1, YaF1, YaT1, YaO1, YaW1⟩ := hQ1
      have I2_nu := own_insK In K1
      have I3_en := own_insK Ie K1
      have I4_oa := own_insK Ia K1
      have I5_oa := own_insK Ib K1
      have I6_e0 := own_insK Ie0 K1
      have I7_e1 := own_insK Ie1 K1
      have I8_e2 := own_insK Ie2 K1
      have I9_e3 := own_insK Ie3 K1
      have Y10_st := Yst.keep K1 (ninS (own_neL (by omega)) (ninS (own_neL (by omega)) (ninS (own_neL (by omega)) (ninS (own_neL (by omega)) (ninS (own_neL (by omega)) (ninS (own_neL (by omega)) (ninS (own_neL (by omega)) nin0)))))))
      have Y11_en := Yen.keep K1 (ninS (own_neL (by omega)) (ninS (own_neL (by omega)) (ninS (own_neL (by omega)) (ninS (own_neL (by omega)) (ninS (own_neL (by omega)) (ninS (own_neL (by omega)) (ninS (own_neL (by omega)) nin0)))))))
      have laR1 : (rr.set ((0 : Int32)).toNatClampNeg (.ref aO)).length = 4 := by rw [List.length_set]; exact lR
      have laV1 : (vv.set ((0 : Int32)).toNatClampNeg (.ref aW)).length = 4 := by rw [List.length_set]; exact lV
      have laF1 : (ff.set ((0 : Int32)).toNatClampNeg (.int (0 : Int32))).length = 4 := by rw [List.length_set]; exact lF
      have laT1 : (tt.set ((0 : Int32)).toNatClampNeg (.int (ow + (1 : Int32)))).length = 4 := by rw [List.length_set]; exact lT
      have laO1 : (oo.set (ow).toNatClampNeg (.int x2)).length = 16 := by rw [List.length_set]; exact lO
      have laW1 : (ww.set (ow).toNatClampNeg (.ref oa)).length = 16 := by rw [List.length_set]; exact lW
      show OwnDone p e below _ (T1.setTop (mkF m 23 #[.val (.ref r), .val (.int k1), .val (.int x2), .val (.ref st), .val (.ref nu), .val (.ref en), .val (.ref oa), .val (.int (k1 &&& (3 : Int32))), .unset, .unset] []))
      refine OwnDone.go (A := (T1.setTop (mkF m 26 #[.val (.ref r), .val (.int k1), .val (.int x2), .val (.ref st), .val (.ref nu), .val (.ref en), .val (.ref oa), .val (.int (k1 &&& (3 : Int32))), .unset, .unset] [.null]))) (fun tQ kQ => ?_) ?_
      · refine XS.aloadN P1.here hx rfl (hb hby dst_23) rfl rfl ?_
        show Steps p.tables e below (T1.setTop (mkF m 24 #[.val (.ref r), .val (.int k1), .val (.int x2), .val (.ref st), .val (.ref nu), .val (.ref en), .val (.ref oa), .val (.int (k1 &&& (3 : Int32))), .unset, .unset] [(.ref st)])) _
        refine XS.iconst P1.here hx rfl (hb hby dst_24) ?_
        show Steps p.tables e below (T1.setTop (mkF m 25 #[.val (.ref r), .val (.int k1), .val (.int x2), .val (.ref st), .val (.ref nu), .val (.ref en), .val (.ref oa), .val (.int (k1 &&& (3 : Int32))), .unset, .unset] [(.int (1 : Int32)), (.ref st)])) _
        refine own_aaload C P1 Y10_st rfl (by decide) rfl dst_25 ?_
        show Steps p.tables e below (T1.setTop (mkF m 26 #[.val (.ref r), .val (.int k1), .val (.int x2), .val (.ref st), .val (.ref nu), .val (.ref en), .val (.ref oa), .val (.int (k1 &&& (3 : Int32))), .unset, .unset] [.null])) _
        exact kQ
      show OwnDone p e below _ (T1.setTop (mkF m 26 #[.val (.ref r), .val (.int k1), .val (.int x2), .val (.ref st), .val (.ref nu), .val (.ref en), .val (.ref oa), .val (.int (k1 &&& (3 : Int32))), .unset, .unset] [.null]))
      refine OwnDone.go (A := (T1.setTop (mkF m 29 #[.val (.ref r), .val (.int k1), .val (.int x2), .val (.ref st), .val (.ref nu), .val (.ref en), .val (.ref oa), .val (.int (k1 &&& (3 : Int32))), .unset, .unset] []))) (fun tQ kQ => XT.ifnonnullNo P1.here hx rfl (hb hby dst_26) rfl kQ) ?_
      show OwnDone p e below _ (T1.setTop (mkF m 29 #[.val (.ref r), .val (.int k1), .val (.int x2), .val (.ref st), .val (.ref nu), .val (.ref en), .val (.ref oa), .val (.int (k1 &&& (3 : Int32))), .unset, .unset] []))
      refine OwnDone.go (A := (T1.setTop (mkF m 33 #[.val (.ref r), .val (.int k1), .val (.int x2), .val (.ref st), .val (.ref nu), .val (.ref en), .val (.ref oa), .val (.int (k1 &&& (3 : Int32))), .unset, .unset] [(.ref oa), (.int (1 : Int32)), (.ref st)]))) (fun tQ kQ => ?_) ?_
      · refine XS.aloadN P1.here hx rfl (hb hby dst_29) rfl rfl ?_
        show Steps p.tables e below (T1.setTop (mkF m 30 #[.val (.ref r), .val (.int k1), .val (.int x2), .val (.ref st), .val (.ref nu), .val (.ref en), .val (.ref oa), .val (.int (k1 &&& (3 : Int32))), .unset, .unset] [(.ref st)])) _
        refine XS.iconst P1.here hx rfl (hb hby dst_30) ?_
        show Steps p.tables e below (T1.setTop (mkF m 31 #[.val (.ref r), .val (.int k1), .val (.int x2), .val (.ref st), .val (.ref nu), .val (.ref en), .val (.ref oa), .val (.int (k1 &&& (3 : Int32))), .unset, .unset] [(.int (1 : Int32)), (.ref st)])) _
        refine XS.aload P1.here hx rfl (hb hby dst_31) rfl rfl ?_
        show Steps p.tables e below (T1.setTop (mkF m 33 #[.val (.ref r), .val (.int k1), .val (.int x2), .val (.ref st), .val (.ref nu), .val (.ref en), .val (.ref oa), .val (.int (k1 &&& (3 : Int32))), .unset, .unset] [(.ref oa), (.int (1 : Int32)), (.ref st)])) _
        exact kQ
      show OwnDone p e below _ (T1.setTop (mkF m 33 #[.val (.ref r), .val (.int k1), .val (.int x2), .val (.ref st), .val (.ref nu), .val (.ref en), .val (.ref oa), .val (.int (k1 &&& (3 : Int32))), .unset, .unset] [(.ref oa), (.int (1 : Int32)), (.ref st)]))
      refine own_aastore C P1 Y10_st rfl (by decide) (show ((1 : Int32) : Int32).toNatClampNeg < 2 from by decide) (Y10_st.sto VS I5_oa) (Or.inl (List.mem_of_getElem? (i := 0) rfl)) dst_33 (vs' := [s0, (.ref oa)]) rfl (fun T12 h12 P12 K12 Y12 => ?_)
      have I13_nu := own_insK I2_nu K12
      have I14_en := own_insK I3_en K12
      have I15_oa := own_insK I4_oa K12
      have I16_oa := own_insK I5_oa K12
      have I17_e0 := own_insK I6_e0 K12
      have I18_e1 := own_insK I7_e1 K12
      have I19_e2 := own_insK I8_e2 K12
      have I20_e3 := own_insK I9_e3 K12
      have O21_r := Ob1.keep K12 (ninS (own_neL (by omega)) nin0)
      have Y22_aR := YaR1.keep K12 (ninS (own_neL (by omega)) nin0)
      have Y23_aV := YaV1.keep K12 (ninS (own_neL (by omega)) nin0)
      have Y24_aF := YaF1.keep K12 (ninS (own_neL (by omega)) nin0)
      have Y25_aT := YaT1.keep K12 (ninS (own_neL (by omega)) nin0)
      have Y26_aO := YaO1.keep K12 (ninS (own_neL (by omega)) nin0)
      have Y27_aW := YaW1.keep K12 (ninS (own_neL (by omega)) nin0)
      have Y28_en := Y11_en.keep K12 (ninS (own_neL (by omega)) nin0)
      show OwnDone p e below _ (T12.setTop (mkF m 34 #[.val (.ref r), .val (.int k1), .val (.int x2), .val (.ref st), .val (.ref nu), .val (.ref en), .val (.ref oa), .val (.int (k1 &&& (3 : Int32))), .unset, .unset] []))
      refine OwnDone.go (A := (T12.setTop (mkF m 39 #[.val (.ref r), .val (.int k1), .val (.int x2), .val (.ref st), .val (.ref nu), .val (.ref en), .val (.ref oa), .val (.int (k1 &&& (3 : Int32))), .unset, .unset] [(.ref oa), (.int (0 : Int32)), (.ref st)]))) (fun tQ kQ => ?_) ?_
      · refine XS.aloadN P12.here hx rfl (hb hby dst_34) rfl rfl ?_
        show Steps p.tables e below (T12.setTop (mkF m 35 #[.val (.ref r), .val (.int k1), .val (.int x2), .val (.ref st), .val (.ref nu), .val (.ref en), .val (.ref oa), .val (.int (k1 &&& (3 : Int32))), .unset, .unset] [(.ref st)])) _
        refine XS.iconst P12.here hx rfl (hb hby dst_35) ?_
        show Steps p.tables e below (T12.setTop (mkF m 36 #[.val (.ref r), .val (.int k1), .val (.int x2), .val (.ref st), .val (.ref nu), .val (.ref en), .val (.ref oa), .val (.int (k1 &&& (3 : Int32))), .unset, .unset] [(.int (0 : Int32)), (.ref st)])) _
        refine XS.aloadN P12.here hx rfl (hb hby dst_36) rfl rfl ?_
        show Steps p.tables e below (T12.setTop (mkF m 37 #[.val (.ref r), .val (.int k1), .val (.int x2), .val (.ref st), .val (.ref nu), .val (.ref en), .val (.ref oa), .val (.int (k1 &&& (3 : Int32))), .unset, .unset] [(.ref st), (.int (0 : Int32)), (.ref st)])) _
        refine XS.iconst P12.here hx rfl (hb hby dst_37) ?_
        show Steps p.tables e below (T12.setTop (mkF m 38 #[.val (.ref r), .val (.int k1), .val (.int x2), .val (.ref st), .val (.ref nu), .val (.ref en), .val (.ref oa), .val (.int (k1 &&& (3 : Int32))), .unset, .unset] [(.int (1 : Int32)), (.ref st), (.int (0 : Int32)), (.ref st)])) _
        refine own_aaload C P12 Y12 rfl (by decide) rfl dst_38 ?_
        show Steps p.tables e below (T12.setTop (mkF m 39 #[.val (.ref r), .val (.int k1), .val (.int x2), .val (.ref st), .val (.ref nu), .val (.ref en), .val (.ref oa), .val (.int (k1 &&& (3 : Int32))), .unset, .unset] [(.ref oa), (.int (0 : Int32)), (.ref st)])) _
        exact kQ
      show OwnDone p e below _ (T12.setTop (mkF m 39 #[.val (.ref r), .val (.int k1), .val (.int x2), .val (.ref st), .val (.ref nu), .val (.ref en), .val (.ref oa), .val (.int (k1 &&& (3 : Int32))), .unset, .unset] [(.ref oa), (.int (0 : Int32)), (.ref st)]))
      refine own_aastore C P12 Y12 rfl (by decide) (show ((0 : Int32) : Int32).toNatClampNeg < 2 from by decide) (Y12.sto VS I16_oa) (Or.inl (List.mem_of_getElem? (i := 0) rfl)) dst_39 (vs' := [(.ref oa), (.ref oa)]) rfl (fun T29 h29 P29 K29 Y29 => ?_)
      have I30_nu := own_insK I13_nu K29
      have I31_en := own_insK I14_en K29
      have I32_oa := own_insK I15_oa K29
      have I33_oa := own_insK I16_oa K29
      have I34_e0 := own_insK I17_e0 K29
      have I35_e1 := own_insK I18_e1 K29
      have I36_e2 := own_insK I19_e2 K29
      have I37_e3 := own_insK I20_e3 K29
      have O38_r := O21_r.keep K29 (ninS (own_neL (by omega)) nin0)
      have Y39_aR := Y22_aR.keep K29 (ninS (own_neL (by omega)) nin0)
      have Y40_aV := Y23_aV.keep K29 (ninS (own_neL (by omega)) nin0)
      have Y41_aF := Y24_aF.keep K29 (ninS (own_neL (by omega)) nin0)
      have Y42_aT := Y25_aT.keep K29 (ninS (own_neL (by omega)) nin0)
      have Y43_aO := Y26_aO.keep K29 (ninS (own_neL (by omega)) nin0)
      have Y44_aW := Y27_aW.keep K29 (ninS (own_neL (by omega)) nin0)
      have Y45_en := Y28_en.keep K29 (ninS (own_neL (by omega)) nin0)
      show OwnDone p e below _ (T29.setTop (mkF m 40 #[.val (.ref r), .val (.int k1), .val (.int x2), .val (.ref st), .val (.ref nu), .val (.ref en), .val (.ref oa), .val (.int (k1 &&& (3 : Int32))), .unset, .unset] []))
      refine OwnDone.go (A := (T29.setTop (mkF m 116 #[.val (.ref r), .val (.int k1), .val (.int x2), .val (.ref st), .val (.ref nu), .val (.ref en), .val (.ref oa), .val (.int (k1 &&& (3 : Int32))), .unset, .unset] []))) (fun tQ kQ => ?_) ?_
      · refine XS.goto P29.here hx rfl (pc0 := 40) (pc' := 116) rfl (hb hby dst_40) (by decide) (by decide) ?_
        show Steps p.tables e below (T29.setTop (mkF m 116 #[.val (.ref r), .val (.int k1), .val (.int x2), .val (.ref st), .val (.ref nu), .val (.ref en), .val (.ref oa), .val (.int (k1 &&& (3 : Int32))), .unset, .unset] [])) _
        exact kQ
      show OwnDone p e below _ (T29.setTop (mkF m 116 #[.val (.ref r), .val (.int k1), .val (.int x2), .val (.ref st), .val (.ref nu), .val (.ref en), .val (.ref oa), .val (.int (k1 &&& (3 : Int32))), .unset, .unset] []))
      refine OwnDone.go (A := (T29.setTop (mkF m 117 #[.val (.ref r), .val (.int k1), .val (.int x2), .val (.ref st), .val (.ref nu), .val (.ref en), .val (.ref oa), .val (.int (k1 &&& (3 : Int32))), .unset, .unset] [(.ref r)]))) (fun tQ kQ => ?_) ?_
      · refine XS.aloadN P29.here hx rfl (hb hby dst_116) rfl rfl ?_
        show Steps p.tables e below (T29.setTop (mkF m 117 #[.val (.ref r), .val (.int k1), .val (.int x2), .val (.ref st), .val (.ref nu), .val (.ref en), .val (.ref oa), .val (.int (k1 &&& (3 : Int32))), .unset, .unset] [(.ref r)])) _
        exact kQ
      show OwnDone p e below _ (T29.setTop (mkF m 117 #[.val (.ref r), .val (.int k1), .val (.int x2), .val (.ref st), .val (.ref nu), .val (.ref en), .val (.ref oa), .val (.int (k1 &&& (3 : Int32))), .unset, .unset] [(.ref r)]))
      refine own_callV (y := (⟨"com/example/tidx/tidx/index/Run", "first", "()[Ljava/lang/Object;"⟩ : MethodName)) (z := (⟨"com/example/tidx/tidx/index/Run", "first", "()[Ljava/lang/Object;"⟩ : MethodName)) (CC := "com/example/tidx/tidx/index/Run") C P29 O38_r.1 (hw _ (List.mem_of_getElem? (i := 34) rfl)) (hw _ (List.mem_of_getElem? (i := 35) rfl)) (hw _ (List.mem_of_getElem? (i := 37) rfl)) (hw _ (List.mem_of_getElem? (i := 37) rfl)) (hw _ (List.mem_of_getElem? (i := 36) rfl)) (hw _ (List.mem_of_getElem? (i := 8) rfl)) (hw _ (List.mem_of_getElem? (i := 38) rfl)) (by decide) (rmfb l Z a0 hw r aR aV aF aT aO aW kV kF kW vd ((0 : Int32) + (1 : Int32)) (ow + (1 : Int32)) (sz + (1 : Int32)) (vv.set ((0 : Int32)).toNatClampNeg (.ref aW)) (ff.set ((0 : Int32)).toNatClampNeg (.int (0 : Int32))) (ww.set (ow).toNatClampNeg (.ref oa)) aW oa (0 : Int32) h29 P29.old O38_r Y40_aV Y41_aF Y44_aW (by decide) (List.getElem?_set_self (by rw [lV]; decide)) (List.getElem?_set_self (by rw [lF]; decide)) (by decide) (by rw [i1]; exact List.getElem?_set_self (by rw [lW]; decide))) (as := []) (rest := []) pd_4 rfl rfl (wd := 0) rfl rfl dst_117 all0 (by decide) (by decide) (by decide) (by decide) (fun T46 h46 v46 P46 K46 hQ46 => ?_)
      obtain ⟨rfl, rfl⟩ := hQ46
      show OwnDone p e below _ (T46.setTop (mkF m 120 #[.val (.ref r), .val (.int k1), .val (.int x2), .val (.ref st), .val (.ref nu), .val (.ref en), .val (.ref oa), .val (.int (k1 &&& (3 : Int32))), .unset, .unset] [(.ref oa)]))
      refine OwnDone.go (A := (T46.setTop (mkF m 123 #[.val (.ref r), .val (.int k1), .val (.int x2), .val (.ref st), .val (.ref nu), .val (.ref en), .val (.ref oa), .val (.int (k1 &&& (3 : Int32))), .unset, .unset] [(.ref oa), (.ref oa)]))) (fun tQ kQ => ?_) ?_
      · refine XS.aloadN P46.here hx rfl (hb hby dst_120) rfl rfl ?_
        show Steps p.tables e below (T46.setTop (mkF m 121 #[.val (.ref r), .val (.int k1), .val (.int x2), .val (.ref st), .val (.ref nu), .val (.ref en), .val (.ref oa), .val (.int (k1 &&& (3 : Int32))), .unset, .unset] [(.ref st), (.ref oa)])) _
        refine XS.iconst P46.here hx rfl (hb hby dst_121) ?_
        show Steps p.tables e below (T46.setTop (mkF m 122 #[.val (.ref r), .val (.int k1), .val (.int x2), .val (.ref st), .val (.ref nu), .val (.ref en), .val (.ref oa), .val (.int (k1 &&& (3 : Int32))), .unset, .unset] [(.int (0 : Int32)), (.ref st), (.ref oa)])) _
        refine own_aaload C P46 Y29 rfl (by decide) rfl dst_122 ?_
        show Steps p.tables e below (T46.setTop (mkF m 123 #[.val (.ref r), .val (.int k1), .val (.int x2), .val (.ref st), .val (.ref nu), .val (.ref en), .val (.ref oa), .val (.int (k1 &&& (3 : Int32))), .unset, .unset] [(.ref oa), (.ref oa)])) _
        exact kQ
      show OwnDone p e below _ (T46.setTop (mkF m 123 #[.val (.ref r), .val (.int k1), .val (.int x2), .val (.ref st), .val (.ref nu), .val (.ref en), .val (.ref oa), .val (.int (k1 &&& (3 : Int32))), .unset, .unset] [(.ref oa), (.ref oa)]))
      refine OwnDone.go (A := (T46.setTop (mkF m 126 #[.val (.ref r), .val (.int k1), .val (.int x2), .val (.ref st), .val (.ref nu), .val (.ref en), .val (.ref oa), .val (.int (k1 &&& (3 : Int32))), .unset, .unset] []))) (fun tQ kQ => XT.acmpNo P46.here hx rfl (hb hby dst_123) rfl rfl rfl (XT.aa_ne_f rfl) kQ) ?_
      show OwnDone p e below _ (T46.setTop (mkF m 126 #[.val (.ref r), .val (.int k1), .val (.int x2), .val (.ref st), .val (.ref nu), .val (.ref en), .val (.ref oa), .val (.int (k1 &&& (3 : Int32))), .unset, .unset] []))
      refine OwnDone.go (A := (T46.setTop (mkF m 131 #[.val (.ref r), .val (.int k1), .val (.int x2), .val (.ref st), .val (.ref nu), .val (.ref en), .val (.ref oa), .val (.int (k1 &&& (3 : Int32))), .unset, .unset] [(.int (1 : Int32))]))) (fun tQ kQ => ?_) ?_
      · refine XS.iconst P46.here hx rfl (hb hby dst_126) ?_
        show Steps p.tables e below (T46.setTop (mkF m 127 #[.val (.ref r), .val (.int k1), .val (.int x2), .val (.ref st), .val (.ref nu), .val (.ref en), .val (.ref oa), .val (.int (k1 &&& (3 : Int32))), .unset, .unset] [(.int (1 : Int32))])) _
        refine XS.goto P46.here hx rfl (pc0 := 127) (pc' := 131) rfl (hb hby dst_127) (by decide) (by decide) ?_
        show Steps p.tables e below (T46.setTop (mkF m 131 #[.val (.ref r), .val (.int k1), .val (.int x2), .val (.ref st), .val (.ref nu), .val (.ref en), .val (.ref oa), .val (.int (k1 &&& (3 : Int32))), .unset, .unset] [(.int (1 : Int32))])) _
        exact kQ
      show OwnDone p e below _ (T46.setTop (mkF m 131 #[.val (.ref r), .val (.int k1), .val (.int x2), .val (.ref st), .val (.ref nu), .val (.ref en), .val (.ref oa), .val (.int (k1 &&& (3 : Int32))), .unset, .unset] [(.int (1 : Int32))]))
      refine own_retN C P46 (by simp) (z' := (1 : Int32)) (by decide) dst_131 (by decide) (by decide) ?_
      refine ⟨rfl, vd, ((0 : Int32) + (1 : Int32)), (ow + (1 : Int32)), (sz + (1 : Int32)), (rr.set ((0 : Int32)).toNatClampNeg (.ref aO)), (vv.set ((0 : Int32)).toNatClampNeg (.ref aW)), (ff.set ((0 : Int32)).toNatClampNeg (.int (0 : Int32))), (tt.set ((0 : Int32)).toNatClampNeg (.int (ow + (1 : Int32)))), (oo.set (ow).toNatClampNeg (.int x2)), (ww.set (ow).toNatClampNeg (.ref oa)), (.ref oa), (.ref oa), O38_r, Y39_aR, Y40_aV, Y41_aF, Y42_aT, Y43_aO, Y44_aW, Y29, Y45_en, ⟨laR1, laV1, laF1, laT1, laO1, laW1⟩, ?_, ?_, ?_, ?_⟩
      · exact ⟨by decide, by have := bs; have e1 : ((0 : Int32) + (1 : Int32)).toInt = 1 := (by decide); omega⟩
      · exact own_inc bo (by omega)
      · exact Or.inr ⟨own_incNe bo (by omega), (by rw [i1]; exact List.getElem?_set_self (by rw [lW]; decide)), oa, rfl, I33_oa⟩
      · exact Or.inr ⟨by decide, oa, (0 : Int32), rfl, List.getElem?_set_self (by rw [lF]; decide), by decide, Or.inl ⟨List.getElem?_set_self (by rw [lV]; decide), (by rw [i1]; exact List.getElem?_set_self (by rw [lW]; decide)), rfl⟩⟩
    · obtain ⟨i1, i2, b1, rfl, i3⟩ := I1
      show OwnDone p e below _ (T.setTop (mkF m 16 #[.val (.ref r), .val (.int k1), .val (.int x2), .val (.ref st), .val (.ref nu), .val (.ref en), .val (.ref oa), .val (.int (k1 &&& (3 : Int32))), .unset, .unset] []))
      refine OwnDone.go (A := (T.setTop (mkF m 20 #[.val (.ref r), .val (.int k1), .val (.int x2), .val (.ref st), .val (.ref nu), .val (.ref en), .val (.ref oa), .val (.int (k1 &&& (3 : Int32))), .unset, .unset] [(.ref oa), (.int x2), (.ref r)]))) (fun tQ kQ => ?_) ?_
      · refine XS.aloadN P.here hx rfl (hb hby dst_16) rfl rfl ?_
        show Steps p.tables e below (T.setTop (mkF m 17 #[.val (.ref r), .val (.int k1), .val (.int x2), .val (.ref st), .val (.ref nu), .val (.ref en), .val (.ref oa), .val (.int (k1 &&& (3 : Int32))), .unset, .unset] [(.ref r)])) _
        refine XS.iloadN P.here hx rfl (hb hby dst_17) rfl ?_
        show Steps p.tables e below (T.setTop (mkF m 18 #[.val (.ref r), .val (.int k1), .val (.int x2), .val (.ref st), .val (.ref nu), .val (.ref en), .val (.ref oa), .val (.int (k1 &&& (3 : Int32))), .unset, .unset] [(.int x2), (.ref r)])) _
        refine XS.aload P.here hx rfl (hb hby dst_18) rfl rfl ?_
        show Steps p.tables e below (T.setTop (mkF m 20 #[.val (.ref r), .val (.int k1), .val (.int x2), .val (.ref st), .val (.ref nu), .val (.ref en), .val (.ref oa), .val (.int (k1 &&& (3 : Int32))), .unset, .unset] [(.ref oa), (.int x2), (.ref r)])) _
        exact kQ
      show OwnDone p e below _ (T.setTop (mkF m 20 #[.val (.ref r), .val (.int k1), .val (.int x2), .val (.ref st), .val (.ref nu), .val (.ref en), .val (.ref oa), .val (.int (k1 &&& (3 : Int32))), .unset, .unset] [(.ref oa), (.int x2), (.ref r)]))
      refine own_callV (y := (⟨"com/example/tidx/tidx/index/Run", "add", "(I[Ljava/lang/Object;)V"⟩ : MethodName)) (z := (⟨"com/example/tidx/tidx/index/Run", "add", "(I[Ljava/lang/Object;)V"⟩ : MethodName)) (CC := "com/example/tidx/tidx/index/Run") C P Ob.1 (hw _ (List.mem_of_getElem? (i := 45) rfl)) (hw _ (List.mem_of_getElem? (i := 46) rfl)) (hw _ (List.mem_of_getElem? (i := 48) rfl)) (hw _ (List.mem_of_getElem? (i := 48) rfl)) (hw _ (List.mem_of_getElem? (i := 47) rfl)) (hw _ (List.mem_of_getElem? (i := 8) rfl)) (hw _ (List.mem_of_getElem? (i := 49) rfl)) (by decide) (rmad l Z a0 hw r x2 oa aR aV aF aT aO aW kR kV kF kT kO kW vd sl ow sz rr vv ff tt oo ww h0 P.old g_r g_aR g_aV g_aF g_aT g_aO g_aW Ob YaR lR YaV lV YaF lF YaT lT YaO lO YaW lW (by omega) (by omega) (by omega) (by omega) (by omega) (by omega) o1_ o2_ Ia VR VV VW NO NW) (as := [(.int x2), (.ref oa)]) (rest := []) pd_3 rfl rfl (wd := 0) rfl rfl dst_20 (allS (Or.inl (List.mem_of_getElem? (i := 1) rfl)) (allS (Or.inl (List.mem_of_getElem? (i := 2) rfl)) (allS (Or.inl (List.mem_of_getElem? (i := 3) rfl)) (allS (Or.inl (List.mem_of_getElem? (i := 4) rfl)) (allS (Or.inl (List.mem_of_getElem? (i := 5) rfl)) (allS (Or.inl (List.mem_of_getElem? (i := 6) rfl)) (allS (Or.inl (List.mem_of_getElem? (i := 7) rfl)) all0))))))) (by decide) (by decide) (by decide) (by decide) (fun T47 h47 v47 P47 K47 hQ47 => ?_)
      obtain ⟨rfl, Ob47, YaR47, YaV47, YaF47, YaT47, YaO47, YaW47⟩ := hQ47
      have I48_nu := own_insK In K47
      have I49_en := own_insK Ie K47
      have I50_oa := own_insK Ia K47
      have I51_oa := own_insK Ib K47
      have I52_e0 := own_insK Ie0 K47
      have I53_e1 := own_insK Ie1 K47
      have I54_e2 := own_insK Ie2 K47
      have I55_e3 := own_insK Ie3 K47
      have I56_b1 := own_insK i3 K47
      have Y57_st := Yst.keep K47 (ninS (own_neL (by omega)) (ninS (own_neL (by omega)) (ninS (own_neL (by omega)) (ninS (own_neL (by omega)) (ninS (own_neL (by omega)) (ninS (own_neL (by omega)) (ninS (own_neL (by omega)) nin0)))))))
      have Y58_en := Yen.keep K47 (ninS (own_neL (by omega)) (ninS (own_neL (by omega)) (ninS (own_neL (by omega)) (ninS (own_neL (by omega)) (ninS (own_neL (by omega)) (ninS (own_neL (by omega)) (ninS (own_neL (by omega)) nin0)))))))
      have laR47 : (rr.set ((0 : Int32)).toNatClampNeg (.ref aO)).length = 4 := by rw [List.length_set]; exact lR
      have laV47 : (vv.set ((0 : Int32)).toNatClampNeg (.ref aW)).length = 4 := by rw [List.length_set]; exact lV
      have laF47 : (ff.set ((0 : Int32)).toNatClampNeg (.int (0 : Int32))).length = 4 := by rw [List.length_set]; exact lF
      have laT47 : (tt.set ((0 : Int32)).toNatClampNeg (.int (ow + (1 : Int32)))).length = 4 := by rw [List.length_set]; exact lT
      have laO47 : (oo.set (ow).toNatClampNeg (.int x2)).length = 16 := by rw [List.length_set]; exact lO
      have laW47 : (ww.set (ow).toNatClampNeg (.ref oa)).length = 16 := by rw [List.length_set]; exact lW
      show OwnDone p e below _ (T47.setTop (mkF m 23 #[.val (.ref r), .val (.int k1), .val (.int x2), .val (.ref st), .val (.ref nu), .val (.ref en), .val (.ref oa), .val (.int (k1 &&& (3 : Int32))), .unset, .unset] []))
      refine OwnDone.go (A := (T47.setTop (mkF m 26 #[.val (.ref r), .val (.int k1), .val (.int x2), .val (.ref st), .val (.ref nu), .val (.ref en), .val (.ref oa), .val (.int (k1 &&& (3 : Int32))), .unset, .unset] [(.ref b1)]))) (fun tQ kQ => ?_) ?_
      · refine XS.aloadN P47.here hx rfl (hb hby dst_23) rfl rfl ?_
        show Steps p.tables e below (T47.setTop (mkF m 24 #[.val (.ref r), .val (.int k1), .val (.int x2), .val (.ref st), .val (.ref nu), .val (.ref en), .val (.ref oa), .val (.int (k1 &&& (3 : Int32))), .unset, .unset] [(.ref st)])) _
        refine XS.iconst P47.here hx rfl (hb hby dst_24) ?_
        show Steps p.tables e below (T47.setTop (mkF m 25 #[.val (.ref r), .val (.int k1), .val (.int x2), .val (.ref st), .val (.ref nu), .val (.ref en), .val (.ref oa), .val (.int (k1 &&& (3 : Int32))), .unset, .unset] [(.int (1 : Int32)), (.ref st)])) _
        refine own_aaload C P47 Y57_st rfl (by decide) rfl dst_25 ?_
        show Steps p.tables e below (T47.setTop (mkF m 26 #[.val (.ref r), .val (.int k1), .val (.int x2), .val (.ref st), .val (.ref nu), .val (.ref en), .val (.ref oa), .val (.int (k1 &&& (3 : Int32))), .unset, .unset] [(.ref b1)])) _
        exact kQ
      show OwnDone p e below _ (T47.setTop (mkF m 26 #[.val (.ref r), .val (.int k1), .val (.int x2), .val (.ref st), .val (.ref nu), .val (.ref en), .val (.ref oa), .val (.int (k1 &&& (3 : Int32))), .unset, .unset] [(.ref b1)]))
      refine OwnDone.go (A := (T47.setTop (mkF m 34 #[.val (.ref r), .val (.int k1), .val (.int x2), .val (.ref st), .val (.ref nu), .val (.ref en), .val (.ref oa), .val (.int (k1 &&& (3 : Int32))), .unset, .unset] []))) (fun tQ kQ => XT.ifnonnullYes P47.here hx rfl (pc0 := 26) (pc' := 34) rfl (hb hby dst_26) rfl (by decide) (by decide) kQ) ?_
      show OwnDone p e below _ (T47.setTop (mkF m 34 #[.val (.ref r), .val (.int k1), .val (.int x2), .val (.ref st), .val (.ref nu), .val (.ref en), .val (.ref oa), .val (.int (k1 &&& (3 : Int32))), .unset, .unset] []))
      refine OwnDone.go (A := (T47.setTop (mkF m 39 #[.val (.ref r), .val (.int k1), .val (.int x2), .val (.ref st), .val (.ref nu), .val (.ref en), .val (.ref oa), .val (.int (k1 &&& (3 : Int32))), .unset, .unset] [(.ref b1), (.int (0 : Int32)), (.ref st)]))) (fun tQ kQ => ?_) ?_
      · refine XS.aloadN P47.here hx rfl (hb hby dst_34) rfl rfl ?_
        show Steps p.tables e below (T47.setTop (mkF m 35 #[.val (.ref r), .val (.int k1), .val (.int x2), .val (.ref st), .val (.ref nu), .val (.ref en), .val (.ref oa), .val (.int (k1 &&& (3 : Int32))), .unset, .unset] [(.ref st)])) _
        refine XS.iconst P47.here hx rfl (hb hby dst_35) ?_
        show Steps p.tables e below (T47.setTop (mkF m 36 #[.val (.ref r), .val (.int k1), .val (.int x2), .val (.ref st), .val (.ref nu), .val (.ref en), .val (.ref oa), .val (.int (k1 &&& (3 : Int32))), .unset, .unset] [(.int (0 : Int32)), (.ref st)])) _
        refine XS.aloadN P47.here hx rfl (hb hby dst_36) rfl rfl ?_
        show Steps p.tables e below (T47.setTop (mkF m 37 #[.val (.ref r), .val (.int k1), .val (.int x2), .val (.ref st), .val (.ref nu), .val (.ref en), .val (.ref oa), .val (.int (k1 &&& (3 : Int32))), .unset, .unset] [(.ref st), (.int (0 : Int32)), (.ref st)])) _
        refine XS.iconst P47.here hx rfl (hb hby dst_37) ?_
        show Steps p.tables e below (T47.setTop (mkF m 38 #[.val (.ref r), .val (.int k1), .val (.int x2), .val (.ref st), .val (.ref nu), .val (.ref en), .val (.ref oa), .val (.int (k1 &&& (3 : Int32))), .unset, .unset] [(.int (1 : Int32)), (.ref st), (.int (0 : Int32)), (.ref st)])) _
        refine own_aaload C P47 Y57_st rfl (by decide) rfl dst_38 ?_
        show Steps p.tables e below (T47.setTop (mkF m 39 #[.val (.ref r), .val (.int k1), .val (.int x2), .val (.ref st), .val (.ref nu), .val (.ref en), .val (.ref oa), .val (.int (k1 &&& (3 : Int32))), .unset, .unset] [(.ref b1), (.int (0 : Int32)), (.ref st)])) _
        exact kQ
      show OwnDone p e below _ (T47.setTop (mkF m 39 #[.val (.ref r), .val (.int k1), .val (.int x2), .val (.ref st), .val (.ref nu), .val (.ref en), .val (.ref oa), .val (.int (k1 &&& (3 : Int32))), .unset, .unset] [(.ref b1), (.int (0 : Int32)), (.ref st)]))
      refine own_aastore C P47 Y57_st rfl (by decide) (show ((0 : Int32) : Int32).toNatClampNeg < 2 from by decide) (Y57_st.sto VS I56_b1) (Or.inl (List.mem_of_getElem? (i := 0) rfl)) dst_39 (vs' := [(.ref b1), (.ref b1)]) rfl (fun T59 h59 P59 K59 Y59 => ?_)
      have I60_nu := own_insK I48_nu K59
      have I61_en := own_insK I49_en K59
      have I62_oa := own_insK I50_oa K59
      have I63_oa := own_insK I51_oa K59
      have I64_e0 := own_insK I52_e0 K59
      have I65_e1 := own_insK I53_e1 K59
      have I66_e2 := own_insK I54_e2 K59
      have I67_e3 := own_insK I55_e3 K59
      have I68_b1 := own_insK I56_b1 K59
      have O69_r := Ob47.keep K59 (ninS (own_neL (by omega)) nin0)
      have Y70_aR := YaR47.keep K59 (ninS (own_neL (by omega)) nin0)
      have Y71_aV := YaV47.keep K59 (ninS (own_neL (by omega)) nin0)
      have Y72_aF := YaF47.keep K59 (ninS (own_neL (by omega)) nin0)
      have Y73_aT := YaT47.keep K59 (ninS (own_neL (by omega)) nin0)
      have Y74_aO := YaO47.keep K59 (ninS (own_neL (by omega)) nin0)
      have Y75_aW := YaW47.keep K59 (ninS (own_neL (by omega)) nin0)
      have Y76_en := Y58_en.keep K59 (ninS (own_neL (by omega)) nin0)
      show OwnDone p e below _ (T59.setTop (mkF m 40 #[.val (.ref r), .val (.int k1), .val (.int x2), .val (.ref st), .val (.ref nu), .val (.ref en), .val (.ref oa), .val (.int (k1 &&& (3 : Int32))), .unset, .unset] []))
      refine OwnDone.go (A := (T59.setTop (mkF m 116 #[.val (.ref r), .val (.int k1), .val (.int x2), .val (.ref st), .val (.ref nu), .val (.ref en), .val (.ref oa), .val (.int (k1 &&& (3 : Int32))), .unset, .unset] []))) (fun tQ kQ => ?_) ?_
      · refine XS.goto P59.here hx rfl (pc0 := 40) (pc' := 116) rfl (hb hby dst_40) (by decide) (by decide) ?_
        show Steps p.tables e below (T59.setTop (mkF m 116 #[.val (.ref r), .val (.int k1), .val (.int x2), .val (.ref st), .val (.ref nu), .val (.ref en), .val (.ref oa), .val (.int (k1 &&& (3 : Int32))), .unset, .unset] [])) _
        exact kQ
      show OwnDone p e below _ (T59.setTop (mkF m 116 #[.val (.ref r), .val (.int k1), .val (.int x2), .val (.ref st), .val (.ref nu), .val (.ref en), .val (.ref oa), .val (.int (k1 &&& (3 : Int32))), .unset, .unset] []))
      refine OwnDone.go (A := (T59.setTop (mkF m 117 #[.val (.ref r), .val (.int k1), .val (.int x2), .val (.ref st), .val (.ref nu), .val (.ref en), .val (.ref oa), .val (.int (k1 &&& (3 : Int32))), .unset, .unset] [(.ref r)]))) (fun tQ kQ => ?_) ?_
      · refine XS.aloadN P59.here hx rfl (hb hby dst_116) rfl rfl ?_
        show Steps p.tables e below (T59.setTop (mkF m 117 #[.val (.ref r), .val (.int k1), .val (.int x2), .val (.ref st), .val (.ref nu), .val (.ref en), .val (.ref oa), .val (.int (k1 &&& (3 : Int32))), .unset, .unset] [(.ref r)])) _
        exact kQ
      show OwnDone p e below _ (T59.setTop (mkF m 117 #[.val (.ref r), .val (.int k1), .val (.int x2), .val (.ref st), .val (.ref nu), .val (.ref en), .val (.ref oa), .val (.int (k1 &&& (3 : Int32))), .unset, .unset] [(.ref r)]))
      refine own_callV (y := (⟨"com/example/tidx/tidx/index/Run", "first", "()[Ljava/lang/Object;"⟩ : MethodName)) (z := (⟨"com/example/tidx/tidx/index/Run", "first", "()[Ljava/lang/Object;"⟩ : MethodName)) (CC := "com/example/tidx/tidx/index/Run") C P59 O69_r.1 (hw _ (List.mem_of_getElem? (i := 34) rfl)) (hw _ (List.mem_of_getElem? (i := 35) rfl)) (hw _ (List.mem_of_getElem? (i := 37) rfl)) (hw _ (List.mem_of_getElem? (i := 37) rfl)) (hw _ (List.mem_of_getElem? (i := 36) rfl)) (hw _ (List.mem_of_getElem? (i := 8) rfl)) (hw _ (List.mem_of_getElem? (i := 38) rfl)) (by decide) (rmfb l Z a0 hw r aR aV aF aT aO aW kV kF kW vd ((0 : Int32) + (1 : Int32)) (ow + (1 : Int32)) (sz + (1 : Int32)) (vv.set ((0 : Int32)).toNatClampNeg (.ref aW)) (ff.set ((0 : Int32)).toNatClampNeg (.int (0 : Int32))) (ww.set (ow).toNatClampNeg (.ref oa)) aW b1 (0 : Int32) h59 P59.old O69_r Y71_aV Y72_aF Y75_aW (by decide) (List.getElem?_set_self (by rw [lV]; decide)) (List.getElem?_set_self (by rw [lF]; decide)) (by decide) ((List.getElem?_set_ne (own_ne0 bo.1 i1)).trans i2)) (as := []) (rest := []) pd_4 rfl rfl (wd := 0) rfl rfl dst_117 all0 (by decide) (by decide) (by decide) (by decide) (fun T77 h77 v77 P77 K77 hQ77 => ?_)
      obtain ⟨rfl, rfl⟩ := hQ77
      show OwnDone p e below _ (T77.setTop (mkF m 120 #[.val (.ref r), .val (.int k1), .val (.int x2), .val (.ref st), .val (.ref nu), .val (.ref en), .val (.ref oa), .val (.int (k1 &&& (3 : Int32))), .unset, .unset] [(.ref b1)]))
      refine OwnDone.go (A := (T77.setTop (mkF m 123 #[.val (.ref r), .val (.int k1), .val (.int x2), .val (.ref st), .val (.ref nu), .val (.ref en), .val (.ref oa), .val (.int (k1 &&& (3 : Int32))), .unset, .unset] [(.ref b1), (.ref b1)]))) (fun tQ kQ => ?_) ?_
      · refine XS.aloadN P77.here hx rfl (hb hby dst_120) rfl rfl ?_
        show Steps p.tables e below (T77.setTop (mkF m 121 #[.val (.ref r), .val (.int k1), .val (.int x2), .val (.ref st), .val (.ref nu), .val (.ref en), .val (.ref oa), .val (.int (k1 &&& (3 : Int32))), .unset, .unset] [(.ref st), (.ref b1)])) _
        refine XS.iconst P77.here hx rfl (hb hby dst_121) ?_
        show Steps p.tables e below (T77.setTop (mkF m 122 #[.val (.ref r), .val (.int k1), .val (.int x2), .val (.ref st), .val (.ref nu), .val (.ref en), .val (.ref oa), .val (.int (k1 &&& (3 : Int32))), .unset, .unset] [(.int (0 : Int32)), (.ref st), (.ref b1)])) _
        refine own_aaload C P77 Y59 rfl (by decide) rfl dst_122 ?_
        show Steps p.tables e below (T77.setTop (mkF m 123 #[.val (.ref r), .val (.int k1), .val (.int x2), .val (.ref st), .val (.ref nu), .val (.ref en), .val (.ref oa), .val (.int (k1 &&& (3 : Int32))), .unset, .unset] [(.ref b1), (.ref b1)])) _
        exact kQ
      show OwnDone p e below _ (T77.setTop (mkF m 123 #[.val (.ref r), .val (.int k1), .val (.int x2), .val (.ref st), .val (.ref nu), .val (.ref en), .val (.ref oa), .val (.int (k1 &&& (3 : Int32))), .unset, .unset] [(.ref b1), (.ref b1)]))
      refine OwnDone.go (A := (T77.setTop (mkF m 126 #[.val (.ref r), .val (.int k1), .val (.int x2), .val (.ref st), .val (.ref nu), .val (.ref en), .val (.ref oa), .val (.int (k1 &&& (3 : Int32))), .unset, .unset] []))) (fun tQ kQ => XT.acmpNo P77.here hx rfl (hb hby dst_123) rfl rfl rfl (XT.aa_ne_f rfl) kQ) ?_
      show OwnDone p e below _ (T77.setTop (mkF m 126 #[.val (.ref r), .val (.int k1), .val (.int x2), .val (.ref st), .val (.ref nu), .val (.ref en), .val (.ref oa), .val (.int (k1 &&& (3 : Int32))), .unset, .unset] []))
      refine OwnDone.go (A := (T77.setTop (mkF m 131 #[.val (.ref r), .val (.int k1), .val (.int x2), .val (.ref st), .val (.ref nu), .val (.ref en), .val (.ref oa), .val (.int (k1 &&& (3 : Int32))), .unset, .unset] [(.int (1 : Int32))]))) (fun tQ kQ => ?_) ?_
      · refine XS.iconst P77.here hx rfl (hb hby dst_126) ?_
        show Steps p.tables e below (T77.setTop (mkF m 127 #[.val (.ref r), .val (.int k1), .val (.int x2), .val (.ref st), .val (.ref nu), .val (.ref en), .val (.ref oa), .val (.int (k1 &&& (3 : Int32))), .unset, .unset] [(.int (1 : Int32))])) _
        refine XS.goto P77.here hx rfl (pc0 := 127) (pc' := 131) rfl (hb hby dst_127) (by decide) (by decide) ?_
        show Steps p.tables e below (T77.setTop (mkF m 131 #[.val (.ref r), .val (.int k1), .val (.int x2), .val (.ref st), .val (.ref nu), .val (.ref en), .val (.ref oa), .val (.int (k1 &&& (3 : Int32))), .unset, .unset] [(.int (1 : Int32))])) _
        exact kQ
      show OwnDone p e below _ (T77.setTop (mkF m 131 #[.val (.ref r), .val (.int k1), .val (.int x2), .val (.ref st), .val (.ref nu), .val (.ref en), .val (.ref oa), .val (.int (k1 &&& (3 : Int32))), .unset, .unset] [(.int (1 : Int32))]))
      refine own_retN C P77 (by simp) (z' := (1 : Int32)) (by decide) dst_131 (by decide) (by decide) ?_
      refine ⟨rfl, vd, ((0 : Int32) + (1 : Int32)), (ow + (1 : Int32)), (sz + (1 : Int32)), (rr.set ((0 : Int32)).toNatClampNeg (.ref aO)), (vv.set ((0 : Int32)).toNatClampNeg (.ref aW)), (ff.set ((0 : Int32)).toNatClampNeg (.int (0 : Int32))), (tt.set ((0 : Int32)).toNatClampNeg (.int (ow + (1 : Int32)))), (oo.set (ow).toNatClampNeg (.int x2)), (ww.set (ow).toNatClampNeg (.ref oa)), (.ref b1), (.ref b1), O69_r, Y70_aR, Y71_aV, Y72_aF, Y73_aT, Y74_aO, Y75_aW, Y59, Y76_en, ⟨laR47, laV47, laF47, laT47, laO47, laW47⟩, ?_, ?_, ?_, ?_⟩
      · exact ⟨by decide, by have := bs; have e1 : ((0 : Int32) + (1 : Int32)).toInt = 1 := (by decide); omega⟩
      · exact own_inc bo (by omega)
      · exact Or.inr ⟨own_incNe bo (by omega), ((List.getElem?_set_ne (own_ne0 bo.1 i1)).trans i2), b1, rfl, I68_b1⟩
      · exact Or.inr ⟨by decide, b1, (0 : Int32), rfl, List.getElem?_set_self (by rw [lF]; decide), by decide, Or.inl ⟨List.getElem?_set_self (by rw [lV]; decide), ((List.getElem?_set_ne (own_ne0 bo.1 i1)).trans i2), rfl⟩⟩
  · refine OwnDone.go (A := (T.setTop (mkF m 10 #[.val (.ref r), .val (.int k1), .val (.int x2), .val (.ref st), .val (.ref nu), .val (.ref en), .val (.ref oa), .val (.int (k1 &&& (3 : Int32))), .unset, .unset] []))) (fun tQ kQ => XS.ifNo P.here hx rfl (hb hby dst_7) rfl (XT.i0_eq_f hc7) kQ) ?_
    show OwnDone p e below _ (T.setTop (mkF m 10 #[.val (.ref r), .val (.int k1), .val (.int x2), .val (.ref st), .val (.ref nu), .val (.ref en), .val (.ref oa), .val (.int (k1 &&& (3 : Int32))), .unset, .unset] []))
    refine OwnDone.go (A := (T.setTop (mkF m 13 #[.val (.ref r), .val (.int k1), .val (.int x2), .val (.ref st), .val (.ref nu), .val (.ref en), .val (.ref oa), .val (.int (k1 &&& (3 : Int32))), .unset, .unset] [(.int (3 : Int32)), (.int (k1 &&& (3 : Int32)))]))) (fun tQ kQ => ?_) ?_
    · refine XS.iload P.here hx rfl (hb hby dst_10) rfl ?_
      show Steps p.tables e below (T.setTop (mkF m 12 #[.val (.ref r), .val (.int k1), .val (.int x2), .val (.ref st), .val (.ref nu), .val (.ref en), .val (.ref oa), .val (.int (k1 &&& (3 : Int32))), .unset, .unset] [(.int (k1 &&& (3 : Int32)))])) _
      refine XS.iconst P.here hx rfl (hb hby dst_12) ?_
      show Steps p.tables e below (T.setTop (mkF m 13 #[.val (.ref r), .val (.int k1), .val (.int x2), .val (.ref st), .val (.ref nu), .val (.ref en), .val (.ref oa), .val (.int (k1 &&& (3 : Int32))), .unset, .unset] [(.int (3 : Int32)), (.int (k1 &&& (3 : Int32)))])) _
      exact kQ
    show OwnDone p e below _ (T.setTop (mkF m 13 #[.val (.ref r), .val (.int k1), .val (.int x2), .val (.ref st), .val (.ref nu), .val (.ref en), .val (.ref oa), .val (.int (k1 &&& (3 : Int32))), .unset, .unset] [(.int (3 : Int32)), (.int (k1 &&& (3 : Int32)))]))
    by_cases hc13 : (k1 &&& (3 : Int32)) = (3 : Int32)
    · refine OwnDone.go (A := (T.setTop (mkF m 16 #[.val (.ref r), .val (.int k1), .val (.int x2), .val (.ref st), .val (.ref nu), .val (.ref en), .val (.ref oa), .val (.int (k1 &&& (3 : Int32))), .unset, .unset] []))) (fun tQ kQ => XS.icmpNo P.here hx rfl (hb hby dst_13) rfl (XT.ii_ne_f hc13) kQ) ?_
      show OwnDone p e below _ (T.setTop (mkF m 16 #[.val (.ref r), .val (.int k1), .val (.int x2), .val (.ref st), .val (.ref nu), .val (.ref en), .val (.ref oa), .val (.int (k1 &&& (3 : Int32))), .unset, .unset] []))
      rcases I1 with I1 | I1
      · obtain ⟨i1, rfl⟩ := I1
        show OwnDone p e below _ (T.setTop (mkF m 16 #[.val (.ref r), .val (.int k1), .val (.int x2), .val (.ref st), .val (.ref nu), .val (.ref en), .val (.ref oa), .val (.int (k1 &&& (3 : Int32))), .unset, .unset] []))
        refine OwnDone.go (A := (T.setTop (mkF m 20 #[.val (.ref r), .val (.int k1), .val (.int x2), .val (.ref st), .val (.ref nu), .val (.ref en), .val (.ref oa), .val (.int (k1 &&& (3 : Int32))), .unset, .unset] [(.ref oa), (.int x2), (.ref r)]))) (fun tQ kQ => ?_) ?_
        · refine XS.aloadN P.here hx rfl (hb hby dst_16) rfl rfl ?_
          show Steps p.tables e below (T.setTop (mkF m 17 #[.val (.ref r), .val (.int k1), .val (.int x2), .val (.ref st), .val (.ref nu), .val (.ref en), .val (.ref oa), .val (.int (k1 &&& (3 : Int32))), .unset, .unset] [(.ref r)])) _
          refine XS.iloadN P.here hx rfl (hb hby dst_17) rfl ?_
          show Steps p.tables e below (T.setTop (mkF m 18 #[.val (.ref r), .val (.int k1), .val (.int x2), .val (.ref st), .val (.ref nu), .val (.ref en), .val (.ref oa), .val (.int (k1 &&& (3 : Int32))), .unset, .unset] [(.int x2), (.ref r)])) _
          refine XS.aload P.here hx rfl (hb hby dst_18) rfl rfl ?_
          show Steps p.tables e below (T.setTop (mkF m 20 #[.val (.ref r), .val (.int k1), .val (.int x2), .val (.ref st), .val (.ref nu), .val (.ref en), .val (.ref oa), .val (.int (k1 &&& (3 : Int32))), .unset, .unset] [(.ref oa), (.int x2), (.ref r)])) _
          exact kQ
        show OwnDone p e below _ (T.setTop (mkF m 20 #[.val (.ref r), .val (.int k1), .val (.int x2), .val (.ref st), .val (.ref nu), .val (.ref en), .val (.ref oa), .val (.int (k1 &&& (3 : Int32))), .unset, .unset] [(.ref oa), (.int x2), (.ref r)]))
        refine own_callV (y := (⟨"com/example/tidx/tidx/index/Run", "add", "(I[Ljava/lang/Object;)V"⟩ : MethodName)) (z := (⟨"com/example/tidx/tidx/index/Run", "add", "(I[Ljava/lang/Object;)V"⟩ : MethodName)) (CC := "com/example/tidx/tidx/index/Run") C P Ob.1 (hw _ (List.mem_of_getElem? (i := 45) rfl)) (hw _ (List.mem_of_getElem? (i := 46) rfl)) (hw _ (List.mem_of_getElem? (i := 48) rfl)) (hw _ (List.mem_of_getElem? (i := 48) rfl)) (hw _ (List.mem_of_getElem? (i := 47) rfl)) (hw _ (List.mem_of_getElem? (i := 8) rfl)) (hw _ (List.mem_of_getElem? (i := 49) rfl)) (by decide) (rmad l Z a0 hw r x2 oa aR aV aF aT aO aW kR kV kF kT kO kW vd sl ow sz rr vv ff tt oo ww h0 P.old g_r g_aR g_aV g_aF g_aT g_aO g_aW Ob YaR lR YaV lV YaF lF YaT lT YaO lO YaW lW (by omega) (by omega) (by omega) (by omega) (by omega) (by omega) o1_ o2_ Ia VR VV VW NO NW) (as := [(.int x2), (.ref oa)]) (rest := []) pd_3 rfl rfl (wd := 0) rfl rfl dst_20 (allS (Or.inl (List.mem_of_getElem? (i := 1) rfl)) (allS (Or.inl (List.mem_of_getElem? (i := 2) rfl)) (allS (Or.inl (List.mem_of_getElem? (i := 3) rfl)) (allS (Or.inl (List.mem_of_getElem? (i := 4) rfl)) (allS (Or.inl (List.mem_of_getElem? (i := 5) rfl)) (allS (Or.inl (List.mem_of_getElem? (i := 6) rfl)) (allS (Or.inl (List.mem_of_getElem? (i := 7) rfl)) all0))))))) (by decide) (by decide) (by decide) (by decide) (fun T78 h78 v78 P78 K78 hQ78 => ?_)
        obtain ⟨rfl, Ob78, YaR78, YaV78, YaF78, YaT78, YaO78, YaW78⟩ := hQ78
        have I79_nu := own_insK In K78
        have I80_en := own_insK Ie K78
        have I81_oa := own_insK Ia K78
        have I82_oa := own_insK Ib K78
        have I83_e0 := own_insK Ie0 K78
        have I84_e1 := own_insK Ie1 K78
        have I85_e2 := own_insK Ie2 K78
        have I86_e3 := own_insK Ie3 K78
        have Y87_st := Yst.keep K78 (ninS (own_neL (by omega)) (ninS (own_neL (by omega)) (ninS (own_neL (by omega)) (ninS (own_neL (by omega)) (ninS (own_neL (by omega)) (ninS (own_neL (by omega)) (ninS (own_neL (by omega)) nin0)))))))
        have Y88_en := Yen.keep K78 (ninS (own_neL (by omega)) (ninS (own_neL (by omega)) (ninS (own_neL (by omega)) (ninS (own_neL (by omega)) (ninS (own_neL (by omega)) (ninS (own_neL (by omega)) (ninS (own_neL (by omega)) nin0)))))))
        have laR78 : (rr.set ((0 : Int32)).toNatClampNeg (.ref aO)).length = 4 := by rw [List.length_set]; exact lR
        have laV78 : (vv.set ((0 : Int32)).toNatClampNeg (.ref aW)).length = 4 := by rw [List.length_set]; exact lV
        have laF78 : (ff.set ((0 : Int32)).toNatClampNeg (.int (0 : Int32))).length = 4 := by rw [List.length_set]; exact lF
        have laT78 : (tt.set ((0 : Int32)).toNatClampNeg (.int (ow + (1 : Int32)))).length = 4 := by rw [List.length_set]; exact lT
        have laO78 : (oo.set (ow).toNatClampNeg (.int x2)).length = 16 := by rw [List.length_set]; exact lO
        have laW78 : (ww.set (ow).toNatClampNeg (.ref oa)).length = 16 := by rw [List.length_set]; exact lW
        show OwnDone p e below _ (T78.setTop (mkF m 23 #[.val (.ref r), .val (.int k1), .val (.int x2), .val (.ref st), .val (.ref nu), .val (.ref en), .val (.ref oa), .val (.int (k1 &&& (3 : Int32))), .unset, .unset] []))
        refine OwnDone.go (A := (T78.setTop (mkF m 26 #[.val (.ref r), .val (.int k1), .val (.int x2), .val (.ref st), .val (.ref nu), .val (.ref en), .val (.ref oa), .val (.int (k1 &&& (3 : Int32))), .unset, .unset] [.null]))) (fun tQ kQ => ?_) ?_
        · refine XS.aloadN P78.here hx rfl (hb hby dst_23) rfl rfl ?_
          show Steps p.tables e below (T78.setTop (mkF m 24 #[.val (.ref r), .val (.int k1), .val (.int x2), .val (.ref st), .val (.ref nu), .val (.ref en), .val (.ref oa), .val (.int (k1 &&& (3 : Int32))), .unset, .unset] [(.ref st)])) _
          refine XS.iconst P78.here hx rfl (hb hby dst_24) ?_
          show Steps p.tables e below (T78.setTop (mkF m 25 #[.val (.ref r), .val (.int k1), .val (.int x2), .val (.ref st), .val (.ref nu), .val (.ref en), .val (.ref oa), .val (.int (k1 &&& (3 : Int32))), .unset, .unset] [(.int (1 : Int32)), (.ref st)])) _
          refine own_aaload C P78 Y87_st rfl (by decide) rfl dst_25 ?_
          show Steps p.tables e below (T78.setTop (mkF m 26 #[.val (.ref r), .val (.int k1), .val (.int x2), .val (.ref st), .val (.ref nu), .val (.ref en), .val (.ref oa), .val (.int (k1 &&& (3 : Int32))), .unset, .unset] [.null])) _
          exact kQ
        show OwnDone p e below _ (T78.setTop (mkF m 26 #[.val (.ref r), .val (.int k1), .val (.int x2), .val (.ref st), .val (.ref nu), .val (.ref en), .val (.ref oa), .val (.int (k1 &&& (3 : Int32))), .unset, .unset] [.null]))
        refine OwnDone.go (A := (T78.setTop (mkF m 29 #[.val (.ref r), .val (.int k1), .val (.int x2), .val (.ref st), .val (.ref nu), .val (.ref en), .val (.ref oa), .val (.int (k1 &&& (3 : Int32))), .unset, .unset] []))) (fun tQ kQ => XT.ifnonnullNo P78.here hx rfl (hb hby dst_26) rfl kQ) ?_
        show OwnDone p e below _ (T78.setTop (mkF m 29 #[.val (.ref r), .val (.int k1), .val (.int x2), .val (.ref st), .val (.ref nu), .val (.ref en), .val (.ref oa), .val (.int (k1 &&& (3 : Int32))), .unset, .unset] []))
        refine OwnDone.go (A := (T78.setTop (mkF m 33 #[.val (.ref r), .val (.int k1), .val (.int x2), .val (.ref st), .val (.ref nu), .val (.ref en), .val (.ref oa), .val (.int (k1 &&& (3 : Int32))), .unset, .unset] [(.ref oa), (.int (1 : Int32)), (.ref st)]))) (fun tQ kQ => ?_) ?_
        · refine XS.aloadN P78.here hx rfl (hb hby dst_29) rfl rfl ?_
          show Steps p.tables e below (T78.setTop (mkF m 30 #[.val (.ref r), .val (.int k1), .val (.int x2), .val (.ref st), .val (.ref nu), .val (.ref en), .val (.ref oa), .val (.int (k1 &&& (3 : Int32))), .unset, .unset] [(.ref st)])) _
          refine XS.iconst P78.here hx rfl (hb hby dst_30) ?_
          show Steps p.tables e below (T78.setTop (mkF m 31 #[.val (.ref r), .val (.int k1), .val (.int x2), .val (.ref st), .val (.ref nu), .val (.ref en), .val (.ref oa), .val (.int (k1 &&& (3 : Int32))), .unset, .unset] [(.int (1 : Int32)), (.ref st)])) _
          refine XS.aload P78.here hx rfl (hb hby dst_31) rfl rfl ?_
          show Steps p.tables e below (T78.setTop (mkF m 33 #[.val (.ref r), .val (.int k1), .val (.int x2), .val (.ref st), .val (.ref nu), .val (.ref en), .val (.ref oa), .val (.int (k1 &&& (3 : Int32))), .unset, .unset] [(.ref oa), (.int (1 : Int32)), (.ref st)])) _
          exact kQ
        show OwnDone p e below _ (T78.setTop (mkF m 33 #[.val (.ref r), .val (.int k1), .val (.int x2), .val (.ref st), .val (.ref nu), .val (.ref en), .val (.ref oa), .val (.int (k1 &&& (3 : Int32))), .unset, .unset] [(.ref oa), (.int (1 : Int32)), (.ref st)]))
        refine own_aastore C P78 Y87_st rfl (by decide) (show ((1 : Int32) : Int32).toNatClampNeg < 2 from by decide) (Y87_st.sto VS I82_oa) (Or.inl (List.mem_of_getElem? (i := 0) rfl)) dst_33 (vs' := [s0, (.ref oa)]) rfl (fun T89 h89 P89 K89 Y89 => ?_)
        have I90_nu := own_insK I79_nu K89
        have I91_en := own_insK I80_en K89
        have I92_oa := own_insK I81_oa K89
        have I93_oa := own_insK I82_oa K89
        have I94_e0 := own_insK I83_e0 K89
        have I95_e1 := own_insK I84_e1 K89
        have I96_e2 := own_insK I85_e2 K89
        have I97_e3 := own_insK I86_e3 K89
        have O98_r := Ob78.keep K89 (ninS (own_neL (by omega)) nin0)
        have Y99_aR := YaR78.keep K89 (ninS (own_neL (by omega)) nin0)
        have Y100_aV := YaV78.keep K89 (ninS (own_neL (by omega)) nin0)
        have Y101_aF := YaF78.keep K89 (ninS (own_neL (by omega)) nin0)
        have Y102_aT := YaT78.keep K89 (ninS (own_neL (by omega)) nin0)
        have Y103_aO := YaO78.keep K89 (ninS (own_neL (by omega)) nin0)
        have Y104_aW := YaW78.keep K89 (ninS (own_neL (by omega)) nin0)
        have Y105_en := Y88_en.keep K89 (ninS (own_neL (by omega)) nin0)
        show OwnDone p e below _ (T89.setTop (mkF m 34 #[.val (.ref r), .val (.int k1), .val (.int x2), .val (.ref st), .val (.ref nu), .val (.ref en), .val (.ref oa), .val (.int (k1 &&& (3 : Int32))), .unset, .unset] []))
        refine OwnDone.go (A := (T89.setTop (mkF m 39 #[.val (.ref r), .val (.int k1), .val (.int x2), .val (.ref st), .val (.ref nu), .val (.ref en), .val (.ref oa), .val (.int (k1 &&& (3 : Int32))), .unset, .unset] [(.ref oa), (.int (0 : Int32)), (.ref st)]))) (fun tQ kQ => ?_) ?_
        · refine XS.aloadN P89.here hx rfl (hb hby dst_34) rfl rfl ?_
          show Steps p.tables e below (T89.setTop (mkF m 35 #[.val (.ref r), .val (.int k1), .val (.int x2), .val (.ref st), .val (.ref nu), .val (.ref en), .val (.ref oa), .val (.int (k1 &&& (3 : Int32))), .unset, .unset] [(.ref st)])) _
          refine XS.iconst P89.here hx rfl (hb hby dst_35) ?_
          show Steps p.tables e below (T89.setTop (mkF m 36 #[.val (.ref r), .val (.int k1), .val (.int x2), .val (.ref st), .val (.ref nu), .val (.ref en), .val (.ref oa), .val (.int (k1 &&& (3 : Int32))), .unset, .unset] [(.int (0 : Int32)), (.ref st)])) _
          refine XS.aloadN P89.here hx rfl (hb hby dst_36) rfl rfl ?_
          show Steps p.tables e below (T89.setTop (mkF m 37 #[.val (.ref r), .val (.int k1), .val (.int x2), .val (.ref st), .val (.ref nu), .val (.ref en), .val (.ref oa), .val (.int (k1 &&& (3 : Int32))), .unset, .unset] [(.ref st), (.int (0 : Int32)), (.ref st)])) _
          refine XS.iconst P89.here hx rfl (hb hby dst_37) ?_
          show Steps p.tables e below (T89.setTop (mkF m 38 #[.val (.ref r), .val (.int k1), .val (.int x2), .val (.ref st), .val (.ref nu), .val (.ref en), .val (.ref oa), .val (.int (k1 &&& (3 : Int32))), .unset, .unset] [(.int (1 : Int32)), (.ref st), (.int (0 : Int32)), (.ref st)])) _
          refine own_aaload C P89 Y89 rfl (by decide) rfl dst_38 ?_
          show Steps p.tables e below (T89.setTop (mkF m 39 #[.val (.ref r), .val (.int k1), .val (.int x2), .val (.ref st), .val (.ref nu), .val (.ref en), .val (.ref oa), .val (.int (k1 &&& (3 : Int32))), .unset, .unset] [(.ref oa), (.int (0 : Int32)), (.ref st)])) _
          exact kQ
        show OwnDone p e below _ (T89.setTop (mkF m 39 #[.val (.ref r), .val (.int k1), .val (.int x2), .val (.ref st), .val (.ref nu), .val (.ref en), .val (.ref oa), .val (.int (k1 &&& (3 : Int32))), .unset, .unset] [(.ref oa), (.int (0 : Int32)), (.ref st)]))
        refine own_aastore C P89 Y89 rfl (by decide) (show ((0 : Int32) : Int32).toNatClampNeg < 2 from by decide) (Y89.sto VS I93_oa) (Or.inl (List.mem_of_getElem? (i := 0) rfl)) dst_39 (vs' := [(.ref oa), (.ref oa)]) rfl (fun T106 h106 P106 K106 Y106 => ?_)
        have I107_nu := own_insK I90_nu K106
        have I108_en := own_insK I91_en K106
        have I109_oa := own_insK I92_oa K106
        have I110_oa := own_insK I93_oa K106
        have I111_e0 := own_insK I94_e0 K106
        have I112_e1 := own_insK I95_e1 K106
        have I113_e2 := own_insK I96_e2 K106
        have I114_e3 := own_insK I97_e3 K106
        have O115_r := O98_r.keep K106 (ninS (own_neL (by omega)) nin0)
        have Y116_aR := Y99_aR.keep K106 (ninS (own_neL (by omega)) nin0)
        have Y117_aV := Y100_aV.keep K106 (ninS (own_neL (by omega)) nin0)
        have Y118_aF := Y101_aF.keep K106 (ninS (own_neL (by omega)) nin0)
        have Y119_aT := Y102_aT.keep K106 (ninS (own_neL (by omega)) nin0)
        have Y120_aO := Y103_aO.keep K106 (ninS (own_neL (by omega)) nin0)
        have Y121_aW := Y104_aW.keep K106 (ninS (own_neL (by omega)) nin0)
        have Y122_en := Y105_en.keep K106 (ninS (own_neL (by omega)) nin0)
        show OwnDone p e below _ (T106.setTop (mkF m 40 #[.val (.ref r), .val (.int k1), .val (.int x2), .val (.ref st), .val (.ref nu), .val (.ref en), .val (.ref oa), .val (.int (k1 &&& (3 : Int32))), .unset, .unset] []))
        refine OwnDone.go (A := (T106.setTop (mkF m 116 #[.val (.ref r), .val (.int k1), .val (.int x2), .val (.ref st), .val (.ref nu), .val (.ref en), .val (.ref oa), .val (.int (k1 &&& (3 : Int32))), .unset, .unset] []))) (fun tQ kQ => ?_) ?_
        · refine XS.goto P106.here hx rfl (pc0 := 40) (pc' := 116) rfl (hb hby dst_40) (by decide) (by decide) ?_
          show Steps p.tables e below (T106.setTop (mkF m 116 #[.val (.ref r), .val (.int k1), .val (.int x2), .val (.ref st), .val (.ref nu), .val (.ref en), .val (.ref oa), .val (.int (k1 &&& (3 : Int32))), .unset, .unset] [])) _
          exact kQ
        show OwnDone p e below _ (T106.setTop (mkF m 116 #[.val (.ref r), .val (.int k1), .val (.int x2), .val (.ref st), .val (.ref nu), .val (.ref en), .val (.ref oa), .val (.int (k1 &&& (3 : Int32))), .unset, .unset] []))
        refine OwnDone.go (A := (T106.setTop (mkF m 117 #[.val (.ref r), .val (.int k1), .val (.int x2), .val (.ref st), .val (.ref nu), .val (.ref en), .val (.ref oa), .val (.int (k1 &&& (3 : Int32))), .unset, .unset] [(.ref r)]))) (fun tQ kQ => ?_) ?_
        · refine XS.aloadN P106.here hx rfl (hb hby dst_116) rfl rfl ?_
          show Steps p.tables e below (T106.setTop (mkF m 117 #[.val (.ref r), .val (.int k1), .val (.int x2), .val (.ref st), .val (.ref nu), .val (.ref en), .val (.ref oa), .val (.int (k1 &&& (3 : Int32))), .unset, .unset] [(.ref r)])) _
          exact kQ
        show OwnDone p e below _ (T106.setTop (mkF m 117 #[.val (.ref r), .val (.int k1), .val (.int x2), .val (.ref st), .val (.ref nu), .val (.ref en), .val (.ref oa), .val (.int (k1 &&& (3 : Int32))), .unset, .unset] [(.ref r)]))
        refine own_callV (y := (⟨"com/example/tidx/tidx/index/Run", "first", "()[Ljava/lang/Object;"⟩ : MethodName)) (z := (⟨"com/example/tidx/tidx/index/Run", "first", "()[Ljava/lang/Object;"⟩ : MethodName)) (CC := "com/example/tidx/tidx/index/Run") C P106 O115_r.1 (hw _ (List.mem_of_getElem? (i := 34) rfl)) (hw _ (List.mem_of_getElem? (i := 35) rfl)) (hw _ (List.mem_of_getElem? (i := 37) rfl)) (hw _ (List.mem_of_getElem? (i := 37) rfl)) (hw _ (List.mem_of_getElem? (i := 36) rfl)) (hw _ (List.mem_of_getElem? (i := 8) rfl)) (hw _ (List.mem_of_getElem? (i := 38) rfl)) (by decide) (rmfb l Z a0 hw r aR aV aF aT aO aW kV kF kW vd ((0 : Int32) + (1 : Int32)) (ow + (1 : Int32)) (sz + (1 : Int32)) (vv.set ((0 : Int32)).toNatClampNeg (.ref aW)) (ff.set ((0 : Int32)).toNatClampNeg (.int (0 : Int32))) (ww.set (ow).toNatClampNeg (.ref oa)) aW oa (0 : Int32) h106 P106.old O115_r Y117_aV Y118_aF Y121_aW (by decide) (List.getElem?_set_self (by rw [lV]; decide)) (List.getElem?_set_self (by rw [lF]; decide)) (by decide) (by rw [i1]; exact List.getElem?_set_self (by rw [lW]; decide))) (as := []) (rest := []) pd_4 rfl rfl (wd := 0) rfl rfl dst_117 all0 (by decide) (by decide) (by decide) (by decide) (fun T123 h123 v123 P123 K123 hQ123 => ?_)
        obtain ⟨rfl, rfl⟩ := hQ123
        show OwnDone p e below _ (T123.setTop (mkF m 120 #[.val (.ref r), .val (.int k1), .val (.int x2), .val (.ref st), .val (.ref nu), .val (.ref en), .val (.ref oa), .val (.int (k1 &&& (3 : Int32))), .unset, .unset] [(.ref oa)]))
        refine OwnDone.go (A := (T123.setTop (mkF m 123 #[.val (.ref r), .val (.int k1), .val (.int x2), .val (.ref st), .val (.ref nu), .val (.ref en), .val (.ref oa), .val (.int (k1 &&& (3 : Int32))), .unset, .unset] [(.ref oa), (.ref oa)]))) (fun tQ kQ => ?_) ?_
        · refine XS.aloadN P123.here hx rfl (hb hby dst_120) rfl rfl ?_
          show Steps p.tables e below (T123.setTop (mkF m 121 #[.val (.ref r), .val (.int k1), .val (.int x2), .val (.ref st), .val (.ref nu), .val (.ref en), .val (.ref oa), .val (.int (k1 &&& (3 : Int32))), .unset, .unset] [(.ref st), (.ref oa)])) _
          refine XS.iconst P123.here hx rfl (hb hby dst_121) ?_
          show Steps p.tables e below (T123.setTop (mkF m 122 #[.val (.ref r), .val (.int k1), .val (.int x2), .val (.ref st), .val (.ref nu), .val (.ref en), .val (.ref oa), .val (.int (k1 &&& (3 : Int32))), .unset, .unset] [(.int (0 : Int32)), (.ref st), (.ref oa)])) _
          refine own_aaload C P123 Y106 rfl (by decide) rfl dst_122 ?_
          show Steps p.tables e below (T123.setTop (mkF m 123 #[.val (.ref r), .val (.int k1), .val (.int x2), .val (.ref st), .val (.ref nu), .val (.ref en), .val (.ref oa), .val (.int (k1 &&& (3 : Int32))), .unset, .unset] [(.ref oa), (.ref oa)])) _
          exact kQ
        show OwnDone p e below _ (T123.setTop (mkF m 123 #[.val (.ref r), .val (.int k1), .val (.int x2), .val (.ref st), .val (.ref nu), .val (.ref en), .val (.ref oa), .val (.int (k1 &&& (3 : Int32))), .unset, .unset] [(.ref oa), (.ref oa)]))
        refine OwnDone.go (A := (T123.setTop (mkF m 126 #[.val (.ref r), .val (.int k1), .val (.int x2), .val (.ref st), .val (.ref nu), .val (.ref en), .val (.ref oa), .val (.int (k1 &&& (3 : Int32))), .unset, .unset] []))) (fun tQ kQ => XT.acmpNo P123.here hx rfl (hb hby dst_123) rfl rfl rfl (XT.aa_ne_f rfl) kQ) ?_
        show OwnDone p e below _ (T123.setTop (mkF m 126 #[.val (.ref r), .val (.int k1), .val (.int x2), .val (.ref st), .val (.ref nu), .val (.ref en), .val (.ref oa), .val (.int (k1 &&& (3 : Int32))), .unset, .unset] []))
        refine OwnDone.go (A := (T123.setTop (mkF m 131 #[.val (.ref r), .val (.int k1), .val (.int x2), .val (.ref st), .val (.ref nu), .val (.ref en), .val (.ref oa), .val (.int (k1 &&& (3 : Int32))), .unset, .unset] [(.int (1 : Int32))]))) (fun tQ kQ => ?_) ?_
        · refine XS.iconst P123.here hx rfl (hb hby dst_126) ?_
          show Steps p.tables e below (T123.setTop (mkF m 127 #[.val (.ref r), .val (.int k1), .val (.int x2), .val (.ref st), .val (.ref nu), .val (.ref en), .val (.ref oa), .val (.int (k1 &&& (3 : Int32))), .unset, .unset] [(.int (1 : Int32))])) _
          refine XS.goto P123.here hx rfl (pc0 := 127) (pc' := 131) rfl (hb hby dst_127) (by decide) (by decide) ?_
          show Steps p.tables e below (T123.setTop (mkF m 131 #[.val (.ref r), .val (.int k1), .val (.int x2), .val (.ref st), .val (.ref nu), .val (.ref en), .val (.ref oa), .val (.int (k1 &&& (3 : Int32))), .unset, .unset] [(.int (1 : Int32))])) _
          exact kQ
        show OwnDone p e below _ (T123.setTop (mkF m 131 #[.val (.ref r), .val (.int k1), .val (.int x2), .val (.ref st), .val (.ref nu), .val (.ref en), .val (.ref oa), .val (.int (k1 &&& (3 : Int32))), .unset, .unset] [(.int (1 : Int32))]))
        refine own_retN C P123 (by simp) (z' := (1 : Int32)) (by decide) dst_131 (by decide) (by decide) ?_
        refine ⟨rfl, vd, ((0 : Int32) + (1 : Int32)), (ow + (1 : Int32)), (sz + (1 : Int32)), (rr.set ((0 : Int32)).toNatClampNeg (.ref aO)), (vv.set ((0 : Int32)).toNatClampNeg (.ref aW)), (ff.set ((0 : Int32)).toNatClampNeg (.int (0 : Int32))), (tt.set ((0 : Int32)).toNatClampNeg (.int (ow + (1 : Int32)))), (oo.set (ow).toNatClampNeg (.int x2)), (ww.set (ow).toNatClampNeg (.ref oa)), (.ref oa), (.ref oa), O115_r, Y116_aR, Y117_aV, Y118_aF, Y119_aT, Y120_aO, Y121_aW, Y106, Y122_en, ⟨laR78, laV78, laF78, laT78, laO78, laW78⟩, ?_, ?_, ?_, ?_⟩
        · exact ⟨by decide, by have := bs; have e1 : ((0 : Int32) + (1 : Int32)).toInt = 1 := (by decide); omega⟩
        · exact own_inc bo (by omega)
        · exact Or.inr ⟨own_incNe bo (by omega), (by rw [i1]; exact List.getElem?_set_self (by rw [lW]; decide)), oa, rfl, I110_oa⟩
        · exact Or.inr ⟨by decide, oa, (0 : Int32), rfl, List.getElem?_set_self (by rw [lF]; decide), by decide, Or.inl ⟨List.getElem?_set_self (by rw [lV]; decide), (by rw [i1]; exact List.getElem?_set_self (by rw [lW]; decide)), rfl⟩⟩
      · obtain ⟨i1, i2, b1, rfl, i3⟩ := I1
        show OwnDone p e below _ (T.setTop (mkF m 16 #[.val (.ref r), .val (.int k1), .val (.int x2), .val (.ref st), .val (.ref nu), .val (.ref en), .val (.ref oa), .val (.int (k1 &&& (3 : Int32))), .unset, .unset] []))
        refine OwnDone.go (A := (T.setTop (mkF m 20 #[.val (.ref r), .val (.int k1), .val (.int x2), .val (.ref st), .val (.ref nu), .val (.ref en), .val (.ref oa), .val (.int (k1 &&& (3 : Int32))), .unset, .unset] [(.ref oa), (.int x2), (.ref r)]))) (fun tQ kQ => ?_) ?_
        · refine XS.aloadN P.here hx rfl (hb hby dst_16) rfl rfl ?_
          show Steps p.tables e below (T.setTop (mkF m 17 #[.val (.ref r), .val (.int k1), .val (.int x2), .val (.ref st), .val (.ref nu), .val (.ref en), .val (.ref oa), .val (.int (k1 &&& (3 : Int32))), .unset, .unset] [(.ref r)])) _
          refine XS.iloadN P.here hx rfl (hb hby dst_17) rfl ?_
          show Steps p.tables e below (T.setTop (mkF m 18 #[.val (.ref r), .val (.int k1), .val (.int x2), .val (.ref st), .val (.ref nu), .val (.ref en), .val (.ref oa), .val (.int (k1 &&& (3 : Int32))), .unset, .unset] [(.int x2), (.ref r)])) _
          refine XS.aload P.here hx rfl (hb hby dst_18) rfl rfl ?_
          show Steps p.tables e below (T.setTop (mkF m 20 #[.val (.ref r), .val (.int k1), .val (.int x2), .val (.ref st), .val (.ref nu), .val (.ref en), .val (.ref oa), .val (.int (k1 &&& (3 : Int32))), .unset, .unset] [(.ref oa), (.int x2), (.ref r)])) _
          exact kQ
        show OwnDone p e below _ (T.setTop (mkF m 20 #[.val (.ref r), .val (.int k1), .val (.int x2), .val (.ref st), .val (.ref nu), .val (.ref en), .val (.ref oa), .val (.int (k1 &&& (3 : Int32))), .unset, .unset] [(.ref oa), (.int x2), (.ref r)]))
        refine own_callV (y := (⟨"com/example/tidx/tidx/index/Run", "add", "(I[Ljava/lang/Object;)V"⟩ : MethodName)) (z := (⟨"com/example/tidx/tidx/index/Run", "add", "(I[Ljava/lang/Object;)V"⟩ : MethodName)) (CC := "com/example/tidx/tidx/index/Run") C P Ob.1 (hw _ (List.mem_of_getElem? (i := 45) rfl)) (hw _ (List.mem_of_getElem? (i := 46) rfl)) (hw _ (List.mem_of_getElem? (i := 48) rfl)) (hw _ (List.mem_of_getElem? (i := 48) rfl)) (hw _ (List.mem_of_getElem? (i := 47) rfl)) (hw _ (List.mem_of_getElem? (i := 8) rfl)) (hw _ (List.mem_of_getElem? (i := 49) rfl)) (by decide) (rmad l Z a0 hw r x2 oa aR aV aF aT aO aW kR kV kF kT kO kW vd sl ow sz rr vv ff tt oo ww h0 P.old g_r g_aR g_aV g_aF g_aT g_aO g_aW Ob YaR lR YaV lV YaF lF YaT lT YaO lO YaW lW (by omega) (by omega) (by omega) (by omega) (by omega) (by omega) o1_ o2_ Ia VR VV VW NO NW) (as := [(.int x2), (.ref oa)]) (rest := []) pd_3 rfl rfl (wd := 0) rfl rfl dst_20 (allS (Or.inl (List.mem_of_getElem? (i := 1) rfl)) (allS (Or.inl (List.mem_of_getElem? (i := 2) rfl)) (allS (Or.inl (List.mem_of_getElem? (i := 3) rfl)) (allS (Or.inl (List.mem_of_getElem? (i := 4) rfl)) (allS (Or.inl (List.mem_of_getElem? (i := 5) rfl)) (allS (Or.inl (List.mem_of_getElem? (i := 6) rfl)) (allS (Or.inl (List.mem_of_getElem? (i := 7) rfl)) all0))))))) (by decide) (by decide) (by decide) (by decide) (fun T124 h124 v124 P124 K124 hQ124 => ?_)
        obtain ⟨rfl, Ob124, YaR124, YaV124, YaF124, YaT124, YaO124, YaW124⟩ := hQ124
        have I125_nu := own_insK In K124
        have I126_en := own_insK Ie K124
        have I127_oa := own_insK Ia K124
        have I128_oa := own_insK Ib K124
        have I129_e0 := own_insK Ie0 K124
        have I130_e1 := own_insK Ie1 K124
        have I131_e2 := own_insK Ie2 K124
        have I132_e3 := own_insK Ie3 K124
        have I133_b1 := own_insK i3 K124
        have Y134_st := Yst.keep K124 (ninS (own_neL (by omega)) (ninS (own_neL (by omega)) (ninS (own_neL (by omega)) (ninS (own_neL (by omega)) (ninS (own_neL (by omega)) (ninS (own_neL (by omega)) (ninS (own_neL (by omega)) nin0)))))))
        have Y135_en := Yen.keep K124 (ninS (own_neL (by omega)) (ninS (own_neL (by omega)) (ninS (own_neL (by omega)) (ninS (own_neL (by omega)) (ninS (own_neL (by omega)) (ninS (own_neL (by omega)) (ninS (own_neL (by omega)) nin0)))))))
        have laR124 : (rr.set ((0 : Int32)).toNatClampNeg (.ref aO)).length = 4 := by rw [List.length_set]; exact lR
        have laV124 : (vv.set ((0 : Int32)).toNatClampNeg (.ref aW)).length = 4 := by rw [List.length_set]; exact lV
        have laF124 : (ff.set ((0 : Int32)).toNatClampNeg (.int (0 : Int32))).length = 4 := by rw [List.length_set]; exact lF
        have laT124 : (tt.set ((0 : Int32)).toNatClampNeg (.int (ow + (1 : Int32)))).length = 4 := by rw [List.length_set]; exact lT
        have laO124 : (oo.set (ow).toNatClampNeg (.int x2)).length = 16 := by rw [List.length_set]; exact lO
        have laW124 : (ww.set (ow).toNatClampNeg (.ref oa)).length = 16 := by rw [List.length_set]; exact lW
        show OwnDone p e below _ (T124.setTop (mkF m 23 #[.val (.ref r), .val (.int k1), .val (.int x2), .val (.ref st), .val (.ref nu), .val (.ref en), .val (.ref oa), .val (.int (k1 &&& (3 : Int32))), .unset, .unset] []))
        refine OwnDone.go (A := (T124.setTop (mkF m 26 #[.val (.ref r), .val (.int k1), .val (.int x2), .val (.ref st), .val (.ref nu), .val (.ref en), .val (.ref oa), .val (.int (k1 &&& (3 : Int32))), .unset, .unset] [(.ref b1)]))) (fun tQ kQ => ?_) ?_
        · refine XS.aloadN P124.here hx rfl (hb hby dst_23) rfl rfl ?_
          show Steps p.tables e below (T124.setTop (mkF m 24 #[.val (.ref r), .val (.int k1), .val (.int x2), .val (.ref st), .val (.ref nu), .val (.ref en), .val (.ref oa), .val (.int (k1 &&& (3 : Int32))), .unset, .unset] [(.ref st)])) _
          refine XS.iconst P124.here hx rfl (hb hby dst_24) ?_
          show Steps p.tables e below (T124.setTop (mkF m 25 #[.val (.ref r), .val (.int k1), .val (.int x2), .val (.ref st), .val (.ref nu), .val (.ref en), .val (.ref oa), .val (.int (k1 &&& (3 : Int32))), .unset, .unset] [(.int (1 : Int32)), (.ref st)])) _
          refine own_aaload C P124 Y134_st rfl (by decide) rfl dst_25 ?_
          show Steps p.tables e below (T124.setTop (mkF m 26 #[.val (.ref r), .val (.int k1), .val (.int x2), .val (.ref st), .val (.ref nu), .val (.ref en), .val (.ref oa), .val (.int (k1 &&& (3 : Int32))), .unset, .unset] [(.ref b1)])) _
          exact kQ
        show OwnDone p e below _ (T124.setTop (mkF m 26 #[.val (.ref r), .val (.int k1), .val (.int x2), .val (.ref st), .val (.ref nu), .val (.ref en), .val (.ref oa), .val (.int (k1 &&& (3 : Int32))), .unset, .unset] [(.ref b1)]))
        refine OwnDone.go (A := (T124.setTop (mkF m 34 #[.val (.ref r), .val (.int k1), .val (.int x2), .val (.ref st), .val (.ref nu), .val (.ref en), .val (.ref oa), .val (.int (k1 &&& (3 : Int32))), .unset, .unset] []))) (fun tQ kQ => XT.ifnonnullYes P124.here hx rfl (pc0 := 26) (pc' := 34) rfl (hb hby dst_26) rfl (by decide) (by decide) kQ) ?_
        show OwnDone p e below _ (T124.setTop (mkF m 34 #[.val (.ref r), .val (.int k1), .val (.int x2), .val (.ref st), .val (.ref nu), .val (.ref en), .val (.ref oa), .val (.int (k1 &&& (3 : Int32))), .unset, .unset] []))
        refine OwnDone.go (A := (T124.setTop (mkF m 39 #[.val (.ref r), .val (.int k1), .val (.int x2), .val (.ref st), .val (.ref nu), .val (.ref en), .val (.ref oa), .val (.int (k1 &&& (3 : Int32))), .unset, .unset] [(.ref b1), (.int (0 : Int32)), (.ref st)]))) (fun tQ kQ => ?_) ?_
        · refine XS.aloadN P124.here hx rfl (hb hby dst_34) rfl rfl ?_
          show Steps p.tables e below (T124.setTop (mkF m 35 #[.val (.ref r), .val (.int k1), .val (.int x2), .val (.ref st), .val (.ref nu), .val (.ref en), .val (.ref oa), .val (.int (k1 &&& (3 : Int32))), .unset, .unset] [(.ref st)])) _
          refine XS.iconst P124.here hx rfl (hb hby dst_35) ?_
          show Steps p.tables e below (T124.setTop (mkF m 36 #[.val (.ref r), .val (.int k1), .val (.int x2), .val (.ref st), .val (.ref nu), .val (.ref en), .val (.ref oa), .val (.int (k1 &&& (3 : Int32))), .unset, .unset] [(.int (0 : Int32)), (.ref st)])) _
          refine XS.aloadN P124.here hx rfl (hb hby dst_36) rfl rfl ?_
          show Steps p.tables e below (T124.setTop (mkF m 37 #[.val (.ref r), .val (.int k1), .val (.int x2), .val (.ref st), .val (.ref nu), .val (.ref en), .val (.ref oa), .val (.int (k1 &&& (3 : Int32))), .unset, .unset] [(.ref st), (.int (0 : Int32)), (.ref st)])) _
          refine XS.iconst P124.here hx rfl (hb hby dst_37) ?_
          show Steps p.tables e below (T124.setTop (mkF m 38 #[.val (.ref r), .val (.int k1), .val (.int x2), .val (.ref st), .val (.ref nu), .val (.ref en), .val (.ref oa), .val (.int (k1 &&& (3 : Int32))), .unset, .unset] [(.int (1 : Int32)), (.ref st), (.int (0 : Int32)), (.ref st)])) _
          refine own_aaload C P124 Y134_st rfl (by decide) rfl dst_38 ?_
          show Steps p.tables e below (T124.setTop (mkF m 39 #[.val (.ref r), .val (.int k1), .val (.int x2), .val (.ref st), .val (.ref nu), .val (.ref en), .val (.ref oa), .val (.int (k1 &&& (3 : Int32))), .unset, .unset] [(.ref b1), (.int (0 : Int32)), (.ref st)])) _
          exact kQ
        show OwnDone p e below _ (T124.setTop (mkF m 39 #[.val (.ref r), .val (.int k1), .val (.int x2), .val (.ref st), .val (.ref nu), .val (.ref en), .val (.ref oa), .val (.int (k1 &&& (3 : Int32))), .unset, .unset] [(.ref b1), (.int (0 : Int32)), (.ref st)]))
        refine own_aastore C P124 Y134_st rfl (by decide) (show ((0 : Int32) : Int32).toNatClampNeg < 2 from by decide) (Y134_st.sto VS I133_b1) (Or.inl (List.mem_of_getElem? (i := 0) rfl)) dst_39 (vs' := [(.ref b1), (.ref b1)]) rfl (fun T136 h136 P136 K136 Y136 => ?_)
        have I137_nu := own_insK I125_nu K136
        have I138_en := own_insK I126_en K136
        have I139_oa := own_insK I127_oa K136
        have I140_oa := own_insK I128_oa K136
        have I141_e0 := own_insK I129_e0 K136
        have I142_e1 := own_insK I130_e1 K136
        have I143_e2 := own_insK I131_e2 K136
        have I144_e3 := own_insK I132_e3 K136
        have I145_b1 := own_insK I133_b1 K136
        have O146_r := Ob124.keep K136 (ninS (own_neL (by omega)) nin0)
        have Y147_aR := YaR124.keep K136 (ninS (own_neL (by omega)) nin0)
        have Y148_aV := YaV124.keep K136 (ninS (own_neL (by omega)) nin0)
        have Y149_aF := YaF124.keep K136 (ninS (own_neL (by omega)) nin0)
        have Y150_aT := YaT124.keep K136 (ninS (own_neL (by omega)) nin0)
        have Y151_aO := YaO124.keep K136 (ninS (own_neL (by omega)) nin0)
        have Y152_aW := YaW124.keep K136 (ninS (own_neL (by omega)) nin0)
        have Y153_en := Y135_en.keep K136 (ninS (own_neL (by omega)) nin0)
        show OwnDone p e below _ (T136.setTop (mkF m 40 #[.val (.ref r), .val (.int k1), .val (.int x2), .val (.ref st), .val (.ref nu), .val (.ref en), .val (.ref oa), .val (.int (k1 &&& (3 : Int32))), .unset, .unset] []))
        refine OwnDone.go (A := (T136.setTop (mkF m 116 #[.val (.ref r), .val (.int k1), .val (.int x2), .val (.ref st), .val (.ref nu), .val (.ref en), .val (.ref oa), .val (.int (k1 &&& (3 : Int32))), .unset, .unset] []))) (fun tQ kQ => ?_) ?_
        · refine XS.goto P136.here hx rfl (pc0 := 40) (pc' := 116) rfl (hb hby dst_40) (by decide) (by decide) ?_
          show Steps p.tables e below (T136.setTop (mkF m 116 #[.val (.ref r), .val (.int k1), .val (.int x2), .val (.ref st), .val (.ref nu), .val (.ref en), .val (.ref oa), .val (.int (k1 &&& (3 : Int32))), .unset, .unset] [])) _
          exact kQ
        show OwnDone p e below _ (T136.setTop (mkF m 116 #[.val (.ref r), .val (.int k1), .val (.int x2), .val (.ref st), .val (.ref nu), .val (.ref en), .val (.ref oa), .val (.int (k1 &&& (3 : Int32))), .unset, .unset] []))
        refine OwnDone.go (A := (T136.setTop (mkF m 117 #[.val (.ref r), .val (.int k1), .val (.int x2), .val (.ref st), .val (.ref nu), .val (.ref en), .val (.ref oa), .val (.int (k1 &&& (3 : Int32))), .unset, .unset] [(.ref r)]))) (fun tQ kQ => ?_) ?_
        · refine XS.aloadN P136.here hx rfl (hb hby dst_116) rfl rfl ?_
          show Steps p.tables e below (T136.setTop (mkF m 117 #[.val (.ref r), .val (.int k1), .val (.int x2), .val (.ref st), .val (.ref nu), .val (.ref en), .val (.ref oa), .val (.int (k1 &&& (3 : Int32))), .unset, .unset] [(.ref r)])) _
          exact kQ
        show OwnDone p e below _ (T136.setTop (mkF m 117 #[.val (.ref r), .val (.int k1), .val (.int x2), .val (.ref st), .val (.ref nu), .val (.ref en), .val (.ref oa), .val (.int (k1 &&& (3 : Int32))), .unset, .unset] [(.ref r)]))
        refine own_callV (y := (⟨"com/example/tidx/tidx/index/Run", "first", "()[Ljava/lang/Object;"⟩ : MethodName)) (z := (⟨"com/example/tidx/tidx/index/Run", "first", "()[Ljava/lang/Object;"⟩ : MethodName)) (CC := "com/example/tidx/tidx/index/Run") C P136 O146_r.1 (hw _ (List.mem_of_getElem? (i := 34) rfl)) (hw _ (List.mem_of_getElem? (i := 35) rfl)) (hw _ (List.mem_of_getElem? (i := 37) rfl)) (hw _ (List.mem_of_getElem? (i := 37) rfl)) (hw _ (List.mem_of_getElem? (i := 36) rfl)) (hw _ (List.mem_of_getElem? (i := 8) rfl)) (hw _ (List.mem_of_getElem? (i := 38) rfl)) (by decide) (rmfb l Z a0 hw r aR aV aF aT aO aW kV kF kW vd ((0 : Int32) + (1 : Int32)) (ow + (1 : Int32)) (sz + (1 : Int32)) (vv.set ((0 : Int32)).toNatClampNeg (.ref aW)) (ff.set ((0 : Int32)).toNatClampNeg (.int (0 : Int32))) (ww.set (ow).toNatClampNeg (.ref oa)) aW b1 (0 : Int32) h136 P136.old O146_r Y148_aV Y149_aF Y152_aW (by decide) (List.getElem?_set_self (by rw [lV]; decide)) (List.getElem?_set_self (by rw [lF]; decide)) (by decide) ((List.getElem?_set_ne (own_ne0 bo.1 i1)).trans i2)) (as := []) (rest := []) pd_4 rfl rfl (wd := 0) rfl rfl dst_117 all0 (by decide) (by decide) (by decide) (by decide) (fun T154 h154 v154 P154 K154 hQ154 => ?_)
        obtain ⟨rfl, rfl⟩ := hQ154
        show OwnDone p e below _ (T154.setTop (mkF m 120 #[.val (.ref r), .val (.int k1), .val (.int x2), .val (.ref st), .val (.ref nu), .val (.ref en), .val (.ref oa), .val (.int (k1 &&& (3 : Int32))), .unset, .unset] [(.ref b1)]))
        refine OwnDone.go (A := (T154.setTop (mkF m 123 #[.val (.ref r), .val (.int k1), .val (.int x2), .val (.ref st), .val (.ref nu), .val (.ref en), .val (.ref oa), .val (.int (k1 &&& (3 : Int32))), .unset, .unset] [(.ref b1), (.ref b1)]))) (fun tQ kQ => ?_) ?_
        · refine XS.aloadN P154.here hx rfl (hb hby dst_120) rfl rfl ?_
          show Steps p.tables e below (T154.setTop (mkF m 121 #[.val (.ref r), .val (.int k1), .val (.int x2), .val (.ref st), .val (.ref nu), .val (.ref en), .val (.ref oa), .val (.int (k1 &&& (3 : Int32))), .unset, .unset] [(.ref st), (.ref b1)])) _
          refine XS.iconst P154.here hx rfl (hb hby dst_121) ?_
          show Steps p.tables e below (T154.setTop (mkF m 122 #[.val (.ref r), .val (.int k1), .val (.int x2), .val (.ref st), .val (.ref nu), .val (.ref en), .val (.ref oa), .val (.int (k1 &&& (3 : Int32))), .unset, .unset] [(.int (0 : Int32)), (.ref st), (.ref b1)])) _
          refine own_aaload C P154 Y136 rfl (by decide) rfl dst_122 ?_
          show Steps p.tables e below (T154.setTop (mkF m 123 #[.val (.ref r), .val (.int k1), .val (.int x2), .val (.ref st), .val (.ref nu), .val (.ref en), .val (.ref oa), .val (.int (k1 &&& (3 : Int32))), .unset, .unset] [(.ref b1), (.ref b1)])) _
          exact kQ
        show OwnDone p e below _ (T154.setTop (mkF m 123 #[.val (.ref r), .val (.int k1), .val (.int x2), .val (.ref st), .val (.ref nu), .val (.ref en), .val (.ref oa), .val (.int (k1 &&& (3 : Int32))), .unset, .unset] [(.ref b1), (.ref b1)]))
        refine OwnDone.go (A := (T154.setTop (mkF m 126 #[.val (.ref r), .val (.int k1), .val (.int x2), .val (.ref st), .val (.ref nu), .val (.ref en), .val (.ref oa), .val (.int (k1 &&& (3 : Int32))), .unset, .unset] []))) (fun tQ kQ => XT.acmpNo P154.here hx rfl (hb hby dst_123) rfl rfl rfl (XT.aa_ne_f rfl) kQ) ?_
        show OwnDone p e below _ (T154.setTop (mkF m 126 #[.val (.ref r), .val (.int k1), .val (.int x2), .val (.ref st), .val (.ref nu), .val (.ref en), .val (.ref oa), .val (.int (k1 &&& (3 : Int32))), .unset, .unset] []))
        refine OwnDone.go (A := (T154.setTop (mkF m 131 #[.val (.ref r), .val (.int k1), .val (.int x2), .val (.ref st), .val (.ref nu), .val (.ref en), .val (.ref oa), .val (.int (k1 &&& (3 : Int32))), .unset, .unset] [(.int (1 : Int32))]))) (fun tQ kQ => ?_) ?_
        · refine XS.iconst P154.here hx rfl (hb hby dst_126) ?_
          show Steps p.tables e below (T154.setTop (mkF m 127 #[.val (.ref r), .val (.int k1), .val (.int x2), .val (.ref st), .val (.ref nu), .val (.ref en), .val (.ref oa), .val (.int (k1 &&& (3 : Int32))), .unset, .unset] [(.int (1 : Int32))])) _
          refine XS.goto P154.here hx rfl (pc0 := 127) (pc' := 131) rfl (hb hby dst_127) (by decide) (by decide) ?_
          show Steps p.tables e below (T154.setTop (mkF m 131 #[.val (.ref r), .val (.int k1), .val (.int x2), .val (.ref st), .val (.ref nu), .val (.ref en), .val (.ref oa), .val (.int (k1 &&& (3 : Int32))), .unset, .unset] [(.int (1 : Int32))])) _
          exact kQ
        show OwnDone p e below _ (T154.setTop (mkF m 131 #[.val (.ref r), .val (.int k1), .val (.int x2), .val (.ref st), .val (.ref nu), .val (.ref en), .val (.ref oa), .val (.int (k1 &&& (3 : Int32))), .unset, .unset] [(.int (1 : Int32))]))
        refine own_retN C P154 (by simp) (z' := (1 : Int32)) (by decide) dst_131 (by decide) (by decide) ?_
        refine ⟨rfl, vd, ((0 : Int32) + (1 : Int32)), (ow + (1 : Int32)), (sz + (1 : Int32)), (rr.set ((0 : Int32)).toNatClampNeg (.ref aO)), (vv.set ((0 : Int32)).toNatClampNeg (.ref aW)), (ff.set ((0 : Int32)).toNatClampNeg (.int (0 : Int32))), (tt.set ((0 : Int32)).toNatClampNeg (.int (ow + (1 : Int32)))), (oo.set (ow).toNatClampNeg (.int x2)), (ww.set (ow).toNatClampNeg (.ref oa)), (.ref b1), (.ref b1), O146_r, Y147_aR, Y148_aV, Y149_aF, Y150_aT, Y151_aO, Y152_aW, Y136, Y153_en, ⟨laR124, laV124, laF124, laT124, laO124, laW124⟩, ?_, ?_, ?_, ?_⟩
        · exact ⟨by decide, by have := bs; have e1 : ((0 : Int32) + (1 : Int32)).toInt = 1 := (by decide); omega⟩
        · exact own_inc bo (by omega)
        · exact Or.inr ⟨own_incNe bo (by omega), ((List.getElem?_set_ne (own_ne0 bo.1 i1)).trans i2), b1, rfl, I145_b1⟩
        · exact Or.inr ⟨by decide, b1, (0 : Int32), rfl, List.getElem?_set_self (by rw [lF]; decide), by decide, Or.inl ⟨List.getElem?_set_self (by rw [lV]; decide), ((List.getElem?_set_ne (own_ne0 bo.1 i1)).trans i2), rfl⟩⟩
    · refine OwnDone.go (A := (T.setTop (mkF m 43 #[.val (.ref r), .val (.int k1), .val (.int x2), .val (.ref st), .val (.ref nu), .val (.ref en), .val (.ref oa), .val (.int (k1 &&& (3 : Int32))), .unset, .unset] []))) (fun tQ kQ => XS.icmpYes P.here hx rfl (pc0 := 13) (pc' := 43) rfl (hb hby dst_13) rfl (XT.ii_ne_t hc13) (by decide) (by decide) kQ) ?_
      show OwnDone p e below _ (T.setTop (mkF m 43 #[.val (.ref r), .val (.int k1), .val (.int x2), .val (.ref st), .val (.ref nu), .val (.ref en), .val (.ref oa), .val (.int (k1 &&& (3 : Int32))), .unset, .unset] []))
      refine OwnDone.go (A := (T.setTop (mkF m 46 #[.val (.ref r), .val (.int k1), .val (.int x2), .val (.ref st), .val (.ref nu), .val (.ref en), .val (.ref oa), .val (.int (k1 &&& (3 : Int32))), .unset, .unset] [(.int (1 : Int32)), (.int (k1 &&& (3 : Int32)))]))) (fun tQ kQ => ?_) ?_
      · refine XS.iload P.here hx rfl (hb hby dst_43) rfl ?_
        show Steps p.tables e below (T.setTop (mkF m 45 #[.val (.ref r), .val (.int k1), .val (.int x2), .val (.ref st), .val (.ref nu), .val (.ref en), .val (.ref oa), .val (.int (k1 &&& (3 : Int32))), .unset, .unset] [(.int (k1 &&& (3 : Int32)))])) _
        refine XS.iconst P.here hx rfl (hb hby dst_45) ?_
        show Steps p.tables e below (T.setTop (mkF m 46 #[.val (.ref r), .val (.int k1), .val (.int x2), .val (.ref st), .val (.ref nu), .val (.ref en), .val (.ref oa), .val (.int (k1 &&& (3 : Int32))), .unset, .unset] [(.int (1 : Int32)), (.int (k1 &&& (3 : Int32)))])) _
        exact kQ
      show OwnDone p e below _ (T.setTop (mkF m 46 #[.val (.ref r), .val (.int k1), .val (.int x2), .val (.ref st), .val (.ref nu), .val (.ref en), .val (.ref oa), .val (.int (k1 &&& (3 : Int32))), .unset, .unset] [(.int (1 : Int32)), (.int (k1 &&& (3 : Int32)))]))
      by_cases hc46 : (k1 &&& (3 : Int32)) = (1 : Int32)
      · refine OwnDone.go (A := (T.setTop (mkF m 49 #[.val (.ref r), .val (.int k1), .val (.int x2), .val (.ref st), .val (.ref nu), .val (.ref en), .val (.ref oa), .val (.int (k1 &&& (3 : Int32))), .unset, .unset] []))) (fun tQ kQ => XS.icmpNo P.here hx rfl (hb hby dst_46) rfl (XT.ii_ne_f hc46) kQ) ?_
        show OwnDone p e below _ (T.setTop (mkF m 49 #[.val (.ref r), .val (.int k1), .val (.int x2), .val (.ref st), .val (.ref nu), .val (.ref en), .val (.ref oa), .val (.int (k1 &&& (3 : Int32))), .unset, .unset] []))
        refine OwnDone.go (A := (T.setTop (mkF m 54 #[.val (.ref r), .val (.int k1), .val (.int x2), .val (.ref st), .val (.ref nu), .val (.ref en), .val (.ref oa), .val (.int (k1 &&& (3 : Int32))), .unset, .unset] [(.int ((XT.ushr k1 (2 : Int32)) &&& (3 : Int32)))]))) (fun tQ kQ => ?_) ?_
        · refine XS.iloadN P.here hx rfl (hb hby dst_49) rfl ?_
          show Steps p.tables e below (T.setTop (mkF m 50 #[.val (.ref r), .val (.int k1), .val (.int x2), .val (.ref st), .val (.ref nu), .val (.ref en), .val (.ref oa), .val (.int (k1 &&& (3 : Int32))), .unset, .unset] [(.int k1)])) _
          refine XS.iconst P.here hx rfl (hb hby dst_50) ?_
          show Steps p.tables e below (T.setTop (mkF m 51 #[.val (.ref r), .val (.int k1), .val (.int x2), .val (.ref st), .val (.ref nu), .val (.ref en), .val (.ref oa), .val (.int (k1 &&& (3 : Int32))), .unset, .unset] [(.int (2 : Int32)), (.int k1)])) _
          refine XT.iushr P.here hx rfl (hb hby dst_51) rfl ?_
          show Steps p.tables e below (T.setTop (mkF m 52 #[.val (.ref r), .val (.int k1), .val (.int x2), .val (.ref st), .val (.ref nu), .val (.ref en), .val (.ref oa), .val (.int (k1 &&& (3 : Int32))), .unset, .unset] [(.int (XT.ushr k1 (2 : Int32)))])) _
          refine XS.iconst P.here hx rfl (hb hby dst_52) ?_
          show Steps p.tables e below (T.setTop (mkF m 53 #[.val (.ref r), .val (.int k1), .val (.int x2), .val (.ref st), .val (.ref nu), .val (.ref en), .val (.ref oa), .val (.int (k1 &&& (3 : Int32))), .unset, .unset] [(.int (3 : Int32)), (.int (XT.ushr k1 (2 : Int32)))])) _
          refine XS.iand P.here hx rfl (hb hby dst_53) rfl ?_
          show Steps p.tables e below (T.setTop (mkF m 54 #[.val (.ref r), .val (.int k1), .val (.int x2), .val (.ref st), .val (.ref nu), .val (.ref en), .val (.ref oa), .val (.int (k1 &&& (3 : Int32))), .unset, .unset] [(.int ((XT.ushr k1 (2 : Int32)) &&& (3 : Int32)))])) _
          exact kQ
        show OwnDone p e below _ (T.setTop (mkF m 54 #[.val (.ref r), .val (.int k1), .val (.int x2), .val (.ref st), .val (.ref nu), .val (.ref en), .val (.ref oa), .val (.int (k1 &&& (3 : Int32))), .unset, .unset] [(.int ((XT.ushr k1 (2 : Int32)) &&& (3 : Int32)))]))
        rcases own_four (XT.ushr k1 2) with hs4 | hs4 | hs4 | hs4
        · rw [hs4]
          show OwnDone p e below _ (T.setTop (mkF m 54 #[.val (.ref r), .val (.int k1), .val (.int x2), .val (.ref st), .val (.ref nu), .val (.ref en), .val (.ref oa), .val (.int (k1 &&& (3 : Int32))), .unset, .unset] [(.int (0 : Int32))]))
          refine OwnDone.go (A := (T.setTop (mkF m 63 #[.val (.ref r), .val (.int k1), .val (.int x2), .val (.ref st), .val (.ref nu), .val (.ref en), .val (.ref oa), .val (.int (k1 &&& (3 : Int32))), .val (.int (0 : Int32)), .unset] [(.int (4 : Int32)), (.int ((XT.ushr k1 (4 : Int32)) &&& (7 : Int32)))]))) (fun tQ kQ => ?_) ?_
          · refine XS.istore P.here hx rfl (hb hby dst_54) rfl (l' := #[.val (.ref r), .val (.int k1), .val (.int x2), .val (.ref st), .val (.ref nu), .val (.ref en), .val (.ref oa), .val (.int (k1 &&& (3 : Int32))), .val (.int (0 : Int32)), .unset]) rfl ?_
            show Steps p.tables e below (T.setTop (mkF m 56 #[.val (.ref r), .val (.int k1), .val (.int x2), .val (.ref st), .val (.ref nu), .val (.ref en), .val (.ref oa), .val (.int (k1 &&& (3 : Int32))), .val (.int (0 : Int32)), .unset] [])) _
            refine XS.iloadN P.here hx rfl (hb hby dst_56) rfl ?_
            show Steps p.tables e below (T.setTop (mkF m 57 #[.val (.ref r), .val (.int k1), .val (.int x2), .val (.ref st), .val (.ref nu), .val (.ref en), .val (.ref oa), .val (.int (k1 &&& (3 : Int32))), .val (.int (0 : Int32)), .unset] [(.int k1)])) _
            refine XS.iconst P.here hx rfl (hb hby dst_57) ?_
            show Steps p.tables e below (T.setTop (mkF m 58 #[.val (.ref r), .val (.int k1), .val (.int x2), .val (.ref st), .val (.ref nu), .val (.ref en), .val (.ref oa), .val (.int (k1 &&& (3 : Int32))), .val (.int (0 : Int32)), .unset] [(.int (4 : Int32)), (.int k1)])) _
            refine XT.iushr P.here hx rfl (hb hby dst_58) rfl ?_
            show Steps p.tables e below (T.setTop (mkF m 59 #[.val (.ref r), .val (.int k1), .val (.int x2), .val (.ref st), .val (.ref nu), .val (.ref en), .val (.ref oa), .val (.int (k1 &&& (3 : Int32))), .val (.int (0 : Int32)), .unset] [(.int (XT.ushr k1 (4 : Int32)))])) _
            refine XS.bipush P.here hx rfl (hb hby dst_59) ?_
            show Steps p.tables e below (T.setTop (mkF m 61 #[.val (.ref r), .val (.int k1), .val (.int x2), .val (.ref st), .val (.ref nu), .val (.ref en), .val (.ref oa), .val (.int (k1 &&& (3 : Int32))), .val (.int (0 : Int32)), .unset] [(.int (7 : Int32)), (.int (XT.ushr k1 (4 : Int32)))])) _
            refine XS.iand P.here hx rfl (hb hby dst_61) rfl ?_
            show Steps p.tables e below (T.setTop (mkF m 62 #[.val (.ref r), .val (.int k1), .val (.int x2), .val (.ref st), .val (.ref nu), .val (.ref en), .val (.ref oa), .val (.int (k1 &&& (3 : Int32))), .val (.int (0 : Int32)), .unset] [(.int ((XT.ushr k1 (4 : Int32)) &&& (7 : Int32)))])) _
            refine XS.iconst P.here hx rfl (hb hby dst_62) ?_
            show Steps p.tables e below (T.setTop (mkF m 63 #[.val (.ref r), .val (.int k1), .val (.int x2), .val (.ref st), .val (.ref nu), .val (.ref en), .val (.ref oa), .val (.int (k1 &&& (3 : Int32))), .val (.int (0 : Int32)), .unset] [(.int (4 : Int32)), (.int ((XT.ushr k1 (4 : Int32)) &&& (7 : Int32)))])) _
            exact kQ
          show OwnDone p e below _ (T.setTop (mkF m 63 #[.val (.ref r), .val (.int k1), .val (.int x2), .val (.ref st), .val (.ref nu), .val (.ref en), .val (.ref oa), .val (.int (k1 &&& (3 : Int32))), .val (.int (0 : Int32)), .unset] [(.int (4 : Int32)), (.int ((XT.ushr k1 (4 : Int32)) &&& (7 : Int32)))]))
          refine own_callS (y := (⟨"java/lang/Math", "min", "(II)I"⟩ : MethodName)) C P (hw _ (List.mem_of_getElem? (i := 77) rfl)) (hw _ (List.mem_of_getElem? (i := 78) rfl)) (hw _ (List.mem_of_getElem? (i := 79) rfl)) (hw _ (List.mem_of_getElem? (i := 80) rfl)) (by decide) (rmmin l Z a0 hw ((XT.ushr k1 (4 : Int32)) &&& (7 : Int32)) (4 : Int32) h0 P.old) (as := [(.int ((XT.ushr k1 (4 : Int32)) &&& (7 : Int32))), (.int (4 : Int32))]) (rest := []) pd_5 rfl rfl (wd := 0) rfl rfl dst_63 all0 (by decide) (by decide) (by decide) (by decide) (fun T155 h155 v155 P155 K155 hQ155 => ?_)
          obtain ⟨⟨tq, rfl⟩, rfl⟩ := hQ155
          show OwnDone p e below _ (T155.setTop (mkF m 66 #[.val (.ref r), .val (.int k1), .val (.int x2), .val (.ref st), .val (.ref nu), .val (.ref en), .val (.ref oa), .val (.int (k1 &&& (3 : Int32))), .val (.int (0 : Int32)), .unset] [(.int tq)]))
          refine OwnDone.go (A := (T155.setTop (mkF m 77 #[.val (.ref r), .val (.int k1), .val (.int x2), .val (.ref st), .val (.ref nu), .val (.ref en), .val (.ref oa), .val (.int (k1 &&& (3 : Int32))), .val (.int (0 : Int32)), .val (.int tq)] [(.int tq), (.int (0 : Int32)), (.ref en), (.ref nu), (.ref r)]))) (fun tQ kQ => ?_) ?_
          · refine XS.istore P155.here hx rfl (hb hby dst_66) rfl (l' := #[.val (.ref r), .val (.int k1), .val (.int x2), .val (.ref st), .val (.ref nu), .val (.ref en), .val (.ref oa), .val (.int (k1 &&& (3 : Int32))), .val (.int (0 : Int32)), .val (.int tq)]) rfl ?_
            show Steps p.tables e below (T155.setTop (mkF m 68 #[.val (.ref r), .val (.int k1), .val (.int x2), .val (.ref st), .val (.ref nu), .val (.ref en), .val (.ref oa), .val (.int (k1 &&& (3 : Int32))), .val (.int (0 : Int32)), .val (.int tq)] [])) _
            refine XS.aloadN P155.here hx rfl (hb hby dst_68) rfl rfl ?_
            show Steps p.tables e below (T155.setTop (mkF m 69 #[.val (.ref r), .val (.int k1), .val (.int x2), .val (.ref st), .val (.ref nu), .val (.ref en), .val (.ref oa), .val (.int (k1 &&& (3 : Int32))), .val (.int (0 : Int32)), .val (.int tq)] [(.ref r)])) _
            refine XS.aload P155.here hx rfl (hb hby dst_69) rfl rfl ?_
            show Steps p.tables e below (T155.setTop (mkF m 71 #[.val (.ref r), .val (.int k1), .val (.int x2), .val (.ref st), .val (.ref nu), .val (.ref en), .val (.ref oa), .val (.int (k1 &&& (3 : Int32))), .val (.int (0 : Int32)), .val (.int tq)] [(.ref nu), (.ref r)])) _
            refine XS.aload P155.here hx rfl (hb hby dst_71) rfl rfl ?_
            show Steps p.tables e below (T155.setTop (mkF m 73 #[.val (.ref r), .val (.int k1), .val (.int x2), .val (.ref st), .val (.ref nu), .val (.ref en), .val (.ref oa), .val (.int (k1 &&& (3 : Int32))), .val (.int (0 : Int32)), .val (.int tq)] [(.ref en), (.ref nu), (.ref r)])) _
            refine XS.iload P155.here hx rfl (hb hby dst_73) rfl ?_
            show Steps p.tables e below (T155.setTop (mkF m 75 #[.val (.ref r), .val (.int k1), .val (.int x2), .val (.ref st), .val (.ref nu), .val (.ref en), .val (.ref oa), .val (.int (k1 &&& (3 : Int32))), .val (.int (0 : Int32)), .val (.int tq)] [(.int (0 : Int32)), (.ref en), (.ref nu), (.ref r)])) _
            refine XS.iload P155.here hx rfl (hb hby dst_75) rfl ?_
            show Steps p.tables e below (T155.setTop (mkF m 77 #[.val (.ref r), .val (.int k1), .val (.int x2), .val (.ref st), .val (.ref nu), .val (.ref en), .val (.ref oa), .val (.int (k1 &&& (3 : Int32))), .val (.int (0 : Int32)), .val (.int tq)] [(.int tq), (.int (0 : Int32)), (.ref en), (.ref nu), (.ref r)])) _
            exact kQ
          show OwnDone p e below _ (T155.setTop (mkF m 77 #[.val (.ref r), .val (.int k1), .val (.int x2), .val (.ref st), .val (.ref nu), .val (.ref en), .val (.ref oa), .val (.int (k1 &&& (3 : Int32))), .val (.int (0 : Int32)), .val (.int tq)] [(.int tq), (.int (0 : Int32)), (.ref en), (.ref nu), (.ref r)]))
          by_cases hst : (0 : Int32) < tq
          · rcases I0 with I0 | I0
            · obtain ⟨j1, rfl⟩ := I0
              show OwnDone p e below _ (T155.setTop (mkF m 77 #[.val (.ref r), .val (.int k1), .val (.int x2), .val (.ref st), .val (.ref nu), .val (.ref en), .val (.ref oa), .val (.int (k1 &&& (3 : Int32))), .val (.int (0 : Int32)), .val (.int tq)] [(.int tq), (.int (0 : Int32)), (.ref en), (.ref nu), (.ref r)]))
              refine own_callV (y := (⟨"com/example/tidx/tidx/index/Run", "add", "([I[[Ljava/lang/Object;II)V"⟩ : MethodName)) (z := (⟨"com/example/tidx/tidx/index/Run", "add", "([I[[Ljava/lang/Object;II)V"⟩ : MethodName)) (CC := "com/example/tidx/tidx/index/Run") C P155 Ob.1 (hw _ (List.mem_of_getElem? (i := 81) rfl)) (hw _ (List.mem_of_getElem? (i := 82) rfl)) (hw _ (List.mem_of_getElem? (i := 84) rfl)) (hw _ (List.mem_of_getElem? (i := 84) rfl)) (hw _ (List.mem_of_getElem? (i := 83) rfl)) (hw _ (List.mem_of_getElem? (i := 8) rfl)) (hw _ (List.mem_of_getElem? (i := 85) rfl)) (by decide) (rmal l Z a0 hw r nu en (0 : Int32) tq aR aV aF aT aO aW kR kV kF kT vd sl ow sz rr vv ff tt h0 P155.old g_r g_aR g_aV g_aF g_aT hst Ob YaR lR YaV lV YaF lF YaT lT (by omega) (by omega) (by omega) (by omega) s1_ s2_ In Ie VR VV) (as := [(.ref nu), (.ref en), (.int (0 : Int32)), (.int tq)]) (rest := []) pd_0 rfl rfl (wd := 0) rfl rfl dst_77 (allS (Or.inl (List.mem_of_getElem? (i := 1) rfl)) (allS (Or.inl (List.mem_of_getElem? (i := 2) rfl)) (allS (Or.inl (List.mem_of_getElem? (i := 3) rfl)) (allS (Or.inl (List.mem_of_getElem? (i := 4) rfl)) (allS (Or.inl (List.mem_of_getElem? (i := 5) rfl)) all0))))) (by decide) (by decide) (by decide) (by decide) (fun T156 h156 v156 P156 K156 hQ156 => ?_)
              obtain ⟨rfl, Ob156, YaR156, YaV156, YaF156, YaT156⟩ := hQ156
              have I157_nu := own_insK In K156
              have I158_en := own_insK Ie K156
              have I159_oa := own_insK Ia K156
              have I160_oa := own_insK Ib K156
              have I161_e0 := own_insK Ie0 K156
              have I162_e1 := own_insK Ie1 K156
              have I163_e2 := own_insK Ie2 K156
              have I164_e3 := own_insK Ie3 K156
              have Y165_aO := YaO.keep K156 (ninS (own_neL (by omega)) (ninS (own_neL (by omega)) (ninS (own_neL (by omega)) (ninS (own_neL (by omega)) (ninS (own_neL (by omega)) nin0)))))
              have Y166_aW := YaW.keep K156 (ninS (own_neL (by omega)) (ninS (own_neL (by omega)) (ninS (own_neL (by omega)) (ninS (own_neL (by omega)) (ninS (own_neL (by omega)) nin0)))))
              have Y167_st := Yst.keep K156 (ninS (own_neL (by omega)) (ninS (own_neL (by omega)) (ninS (own_neL (by omega)) (ninS (own_neL (by omega)) (ninS (own_neL (by omega)) nin0)))))
              have Y168_en := Yen.keep K156 (ninS (own_neL (by omega)) (ninS (own_neL (by omega)) (ninS (own_neL (by omega)) (ninS (own_neL (by omega)) (ninS (own_neL (by omega)) nin0)))))
              have laR156 : (rr.set (sl).toNatClampNeg (.ref nu)).length = 4 := by rw [List.length_set]; exact lR
              have laV156 : (vv.set (sl).toNatClampNeg (.ref en)).length = 4 := by rw [List.length_set]; exact lV
              have laF156 : (ff.set (sl).toNatClampNeg (.int (0 : Int32))).length = 4 := by rw [List.length_set]; exact lF
              have laT156 : (tt.set (sl).toNatClampNeg (.int tq)).length = 4 := by rw [List.length_set]; exact lT
              show OwnDone p e below _ (T156.setTop (mkF m 80 #[.val (.ref r), .val (.int k1), .val (.int x2), .val (.ref st), .val (.ref nu), .val (.ref en), .val (.ref oa), .val (.int (k1 &&& (3 : Int32))), .val (.int (0 : Int32)), .val (.int tq)] []))
              refine OwnDone.go (A := (T156.setTop (mkF m 84 #[.val (.ref r), .val (.int k1), .val (.int x2), .val (.ref st), .val (.ref nu), .val (.ref en), .val (.ref oa), .val (.int (k1 &&& (3 : Int32))), .val (.int (0 : Int32)), .val (.int tq)] [(.int tq), (.int (0 : Int32))]))) (fun tQ kQ => ?_) ?_
              · refine XS.iload P156.here hx rfl (hb hby dst_80) rfl ?_
                show Steps p.tables e below (T156.setTop (mkF m 82 #[.val (.ref r), .val (.int k1), .val (.int x2), .val (.ref st), .val (.ref nu), .val (.ref en), .val (.ref oa), .val (.int (k1 &&& (3 : Int32))), .val (.int (0 : Int32)), .val (.int tq)] [(.int (0 : Int32))])) _
                refine XS.iload P156.here hx rfl (hb hby dst_82) rfl ?_
                show Steps p.tables e below (T156.setTop (mkF m 84 #[.val (.ref r), .val (.int k1), .val (.int x2), .val (.ref st), .val (.ref nu), .val (.ref en), .val (.ref oa), .val (.int (k1 &&& (3 : Int32))), .val (.int (0 : Int32)), .val (.int tq)] [(.int tq), (.int (0 : Int32))])) _
                exact kQ
              show OwnDone p e below _ (T156.setTop (mkF m 84 #[.val (.ref r), .val (.int k1), .val (.int x2), .val (.ref st), .val (.ref nu), .val (.ref en), .val (.ref oa), .val (.int (k1 &&& (3 : Int32))), .val (.int (0 : Int32)), .val (.int tq)] [(.int tq), (.int (0 : Int32))]))
              refine OwnDone.go (A := (T156.setTop (mkF m 87 #[.val (.ref r), .val (.int k1), .val (.int x2), .val (.ref st), .val (.ref nu), .val (.ref en), .val (.ref oa), .val (.int (k1 &&& (3 : Int32))), .val (.int (0 : Int32)), .val (.int tq)] []))) (fun tQ kQ => XS.icmpNo P156.here hx rfl (hb hby dst_84) rfl (XT.ii_ge_f hst) kQ) ?_
              show OwnDone p e below _ (T156.setTop (mkF m 87 #[.val (.ref r), .val (.int k1), .val (.int x2), .val (.ref st), .val (.ref nu), .val (.ref en), .val (.ref oa), .val (.int (k1 &&& (3 : Int32))), .val (.int (0 : Int32)), .val (.int tq)] []))
              refine OwnDone.go (A := (T156.setTop (mkF m 90 #[.val (.ref r), .val (.int k1), .val (.int x2), .val (.ref st), .val (.ref nu), .val (.ref en), .val (.ref oa), .val (.int (k1 &&& (3 : Int32))), .val (.int (0 : Int32)), .val (.int tq)] [.null]))) (fun tQ kQ => ?_) ?_
              · refine XS.aloadN P156.here hx rfl (hb hby dst_87) rfl rfl ?_
                show Steps p.tables e below (T156.setTop (mkF m 88 #[.val (.ref r), .val (.int k1), .val (.int x2), .val (.ref st), .val (.ref nu), .val (.ref en), .val (.ref oa), .val (.int (k1 &&& (3 : Int32))), .val (.int (0 : Int32)), .val (.int tq)] [(.ref st)])) _
                refine XS.iconst P156.here hx rfl (hb hby dst_88) ?_
                show Steps p.tables e below (T156.setTop (mkF m 89 #[.val (.ref r), .val (.int k1), .val (.int x2), .val (.ref st), .val (.ref nu), .val (.ref en), .val (.ref oa), .val (.int (k1 &&& (3 : Int32))), .val (.int (0 : Int32)), .val (.int tq)] [(.int (0 : Int32)), (.ref st)])) _
                refine own_aaload C P156 Y167_st rfl (by decide) rfl dst_89 ?_
                show Steps p.tables e below (T156.setTop (mkF m 90 #[.val (.ref r), .val (.int k1), .val (.int x2), .val (.ref st), .val (.ref nu), .val (.ref en), .val (.ref oa), .val (.int (k1 &&& (3 : Int32))), .val (.int (0 : Int32)), .val (.int tq)] [.null])) _
                exact kQ
              show OwnDone p e below _ (T156.setTop (mkF m 90 #[.val (.ref r), .val (.int k1), .val (.int x2), .val (.ref st), .val (.ref nu), .val (.ref en), .val (.ref oa), .val (.int (k1 &&& (3 : Int32))), .val (.int (0 : Int32)), .val (.int tq)] [.null]))
              refine OwnDone.go (A := (T156.setTop (mkF m 93 #[.val (.ref r), .val (.int k1), .val (.int x2), .val (.ref st), .val (.ref nu), .val (.ref en), .val (.ref oa), .val (.int (k1 &&& (3 : Int32))), .val (.int (0 : Int32)), .val (.int tq)] []))) (fun tQ kQ => XT.ifnonnullNo P156.here hx rfl (hb hby dst_90) rfl kQ) ?_
              show OwnDone p e below _ (T156.setTop (mkF m 93 #[.val (.ref r), .val (.int k1), .val (.int x2), .val (.ref st), .val (.ref nu), .val (.ref en), .val (.ref oa), .val (.int (k1 &&& (3 : Int32))), .val (.int (0 : Int32)), .val (.int tq)] []))
              refine OwnDone.go (A := (T156.setTop (mkF m 100 #[.val (.ref r), .val (.int k1), .val (.int x2), .val (.ref st), .val (.ref nu), .val (.ref en), .val (.ref oa), .val (.int (k1 &&& (3 : Int32))), .val (.int (0 : Int32)), .val (.int tq)] [(.ref e0), (.int (0 : Int32)), (.ref st)]))) (fun tQ kQ => ?_) ?_
              · refine XS.aloadN P156.here hx rfl (hb hby dst_93) rfl rfl ?_
                show Steps p.tables e below (T156.setTop (mkF m 94 #[.val (.ref r), .val (.int k1), .val (.int x2), .val (.ref st), .val (.ref nu), .val (.ref en), .val (.ref oa), .val (.int (k1 &&& (3 : Int32))), .val (.int (0 : Int32)), .val (.int tq)] [(.ref st)])) _
                refine XS.iconst P156.here hx rfl (hb hby dst_94) ?_
                show Steps p.tables e below (T156.setTop (mkF m 95 #[.val (.ref r), .val (.int k1), .val (.int x2), .val (.ref st), .val (.ref nu), .val (.ref en), .val (.ref oa), .val (.int (k1 &&& (3 : Int32))), .val (.int (0 : Int32)), .val (.int tq)] [(.int (0 : Int32)), (.ref st)])) _
                refine XS.aload P156.here hx rfl (hb hby dst_95) rfl rfl ?_
                show Steps p.tables e below (T156.setTop (mkF m 97 #[.val (.ref r), .val (.int k1), .val (.int x2), .val (.ref st), .val (.ref nu), .val (.ref en), .val (.ref oa), .val (.int (k1 &&& (3 : Int32))), .val (.int (0 : Int32)), .val (.int tq)] [(.ref en), (.int (0 : Int32)), (.ref st)])) _
                refine XS.iload P156.here hx rfl (hb hby dst_97) rfl ?_
                show Steps p.tables e below (T156.setTop (mkF m 99 #[.val (.ref r), .val (.int k1), .val (.int x2), .val (.ref st), .val (.ref nu), .val (.ref en), .val (.ref oa), .val (.int (k1 &&& (3 : Int32))), .val (.int (0 : Int32)), .val (.int tq)] [(.int (0 : Int32)), (.ref en), (.int (0 : Int32)), (.ref st)])) _
                refine own_aaload C P156 Y168_en rfl (by decide) rfl dst_99 ?_
                show Steps p.tables e below (T156.setTop (mkF m 100 #[.val (.ref r), .val (.int k1), .val (.int x2), .val (.ref st), .val (.ref nu), .val (.ref en), .val (.ref oa), .val (.int (k1 &&& (3 : Int32))), .val (.int (0 : Int32)), .val (.int tq)] [(.ref e0), (.int (0 : Int32)), (.ref st)])) _
                exact kQ
              show OwnDone p e below _ (T156.setTop (mkF m 100 #[.val (.ref r), .val (.int k1), .val (.int x2), .val (.ref st), .val (.ref nu), .val (.ref en), .val (.ref oa), .val (.int (k1 &&& (3 : Int32))), .val (.int (0 : Int32)), .val (.int tq)] [(.ref e0), (.int (0 : Int32)), (.ref st)]))
              refine own_aastore C P156 Y167_st rfl (by decide) (show ((0 : Int32) : Int32).toNatClampNeg < 2 from by decide) (Y167_st.sto VS I161_e0) (Or.inl (List.mem_of_getElem? (i := 0) rfl)) dst_100 (vs' := [(.ref e0), s1]) rfl (fun T169 h169 P169 K169 Y169 => ?_)
              have I170_nu := own_insK I157_nu K169
              have I171_en := own_insK I158_en K169
              have I172_oa := own_insK I159_oa K169
              have I173_oa := own_insK I160_oa K169
              have I174_e0 := own_insK I161_e0 K169
              have I175_e1 := own_insK I162_e1 K169
              have I176_e2 := own_insK I163_e2 K169
              have I177_e3 := own_insK I164_e3 K169
              have O178_r := Ob156.keep K169 (ninS (own_neL (by omega)) nin0)
              have Y179_aR := YaR156.keep K169 (ninS (own_neL (by omega)) nin0)
              have Y180_aV := YaV156.keep K169 (ninS (own_neL (by omega)) nin0)
              have Y181_aF := YaF156.keep K169 (ninS (own_neL (by omega)) nin0)
              have Y182_aT := YaT156.keep K169 (ninS (own_neL (by omega)) nin0)
              have Y183_aO := Y165_aO.keep K169 (ninS (own_neL (by omega)) nin0)
              have Y184_aW := Y166_aW.keep K169 (ninS (own_neL (by omega)) nin0)
              have Y185_en := Y168_en.keep K169 (ninS (own_neL (by omega)) nin0)
              show OwnDone p e below _ (T169.setTop (mkF m 101 #[.val (.ref r), .val (.int k1), .val (.int x2), .val (.ref st), .val (.ref nu), .val (.ref en), .val (.ref oa), .val (.int (k1 &&& (3 : Int32))), .val (.int (0 : Int32)), .val (.int tq)] []))
              refine OwnDone.go (A := (T169.setTop (mkF m 116 #[.val (.ref r), .val (.int k1), .val (.int x2), .val (.ref st), .val (.ref nu), .val (.ref en), .val (.ref oa), .val (.int (k1 &&& (3 : Int32))), .val (.int (0 : Int32)), .val (.int tq)] []))) (fun tQ kQ => ?_) ?_
              · refine XS.goto P169.here hx rfl (pc0 := 101) (pc' := 116) rfl (hb hby dst_101) (by decide) (by decide) ?_
                show Steps p.tables e below (T169.setTop (mkF m 116 #[.val (.ref r), .val (.int k1), .val (.int x2), .val (.ref st), .val (.ref nu), .val (.ref en), .val (.ref oa), .val (.int (k1 &&& (3 : Int32))), .val (.int (0 : Int32)), .val (.int tq)] [])) _
                exact kQ
              show OwnDone p e below _ (T169.setTop (mkF m 116 #[.val (.ref r), .val (.int k1), .val (.int x2), .val (.ref st), .val (.ref nu), .val (.ref en), .val (.ref oa), .val (.int (k1 &&& (3 : Int32))), .val (.int (0 : Int32)), .val (.int tq)] []))
              refine OwnDone.go (A := (T169.setTop (mkF m 117 #[.val (.ref r), .val (.int k1), .val (.int x2), .val (.ref st), .val (.ref nu), .val (.ref en), .val (.ref oa), .val (.int (k1 &&& (3 : Int32))), .val (.int (0 : Int32)), .val (.int tq)] [(.ref r)]))) (fun tQ kQ => ?_) ?_
              · refine XS.aloadN P169.here hx rfl (hb hby dst_116) rfl rfl ?_
                show Steps p.tables e below (T169.setTop (mkF m 117 #[.val (.ref r), .val (.int k1), .val (.int x2), .val (.ref st), .val (.ref nu), .val (.ref en), .val (.ref oa), .val (.int (k1 &&& (3 : Int32))), .val (.int (0 : Int32)), .val (.int tq)] [(.ref r)])) _
                exact kQ
              show OwnDone p e below _ (T169.setTop (mkF m 117 #[.val (.ref r), .val (.int k1), .val (.int x2), .val (.ref st), .val (.ref nu), .val (.ref en), .val (.ref oa), .val (.int (k1 &&& (3 : Int32))), .val (.int (0 : Int32)), .val (.int tq)] [(.ref r)]))
              refine own_callV (y := (⟨"com/example/tidx/tidx/index/Run", "first", "()[Ljava/lang/Object;"⟩ : MethodName)) (z := (⟨"com/example/tidx/tidx/index/Run", "first", "()[Ljava/lang/Object;"⟩ : MethodName)) (CC := "com/example/tidx/tidx/index/Run") C P169 O178_r.1 (hw _ (List.mem_of_getElem? (i := 34) rfl)) (hw _ (List.mem_of_getElem? (i := 35) rfl)) (hw _ (List.mem_of_getElem? (i := 37) rfl)) (hw _ (List.mem_of_getElem? (i := 37) rfl)) (hw _ (List.mem_of_getElem? (i := 36) rfl)) (hw _ (List.mem_of_getElem? (i := 8) rfl)) (hw _ (List.mem_of_getElem? (i := 38) rfl)) (by decide) (rmfb l Z a0 hw r aR aV aF aT aO aW kV kF kE vd (sl + (1 : Int32)) ow (sz + (tq - (0 : Int32))) (vv.set (sl).toNatClampNeg (.ref en)) (ff.set (sl).toNatClampNeg (.int (0 : Int32))) [(.ref e0), (.ref e1), (.ref e2), (.ref e3)] en e0 (0 : Int32) h169 P169.old O178_r Y180_aV Y181_aF Y185_en (own_incNe bs (by omega)) (by rw [j1]; exact List.getElem?_set_self (by rw [lV]; decide)) (by rw [j1]; exact List.getElem?_set_self (by rw [lF]; decide)) (by decide) rfl) (as := []) (rest := []) pd_4 rfl rfl (wd := 0) rfl rfl dst_117 all0 (by decide) (by decide) (by decide) (by decide) (fun T186 h186 v186 P186 K186 hQ186 => ?_)
              obtain ⟨rfl, rfl⟩ := hQ186
              show OwnDone p e below _ (T186.setTop (mkF m 120 #[.val (.ref r), .val (.int k1), .val (.int x2), .val (.ref st), .val (.ref nu), .val (.ref en), .val (.ref oa), .val (.int (k1 &&& (3 : Int32))), .val (.int (0 : Int32)), .val (.int tq)] [(.ref e0)]))
              refine OwnDone.go (A := (T186.setTop (mkF m 123 #[.val (.ref r), .val (.int k1), .val (.int x2), .val (.ref st), .val (.ref nu), .val (.ref en), .val (.ref oa), .val (.int (k1 &&& (3 : Int32))), .val (.int (0 : Int32)), .val (.int tq)] [(.ref e0), (.ref e0)]))) (fun tQ kQ => ?_) ?_
              · refine XS.aloadN P186.here hx rfl (hb hby dst_120) rfl rfl ?_
                show Steps p.tables e below (T186.setTop (mkF m 121 #[.val (.ref r), .val (.int k1), .val (.int x2), .val (.ref st), .val (.ref nu), .val (.ref en), .val (.ref oa), .val (.int (k1 &&& (3 : Int32))), .val (.int (0 : Int32)), .val (.int tq)] [(.ref st), (.ref e0)])) _
                refine XS.iconst P186.here hx rfl (hb hby dst_121) ?_
                show Steps p.tables e below (T186.setTop (mkF m 122 #[.val (.ref r), .val (.int k1), .val (.int x2), .val (.ref st), .val (.ref nu), .val (.ref en), .val (.ref oa), .val (.int (k1 &&& (3 : Int32))), .val (.int (0 : Int32)), .val (.int tq)] [(.int (0 : Int32)), (.ref st), (.ref e0)])) _
                refine own_aaload C P186 Y169 rfl (by decide) rfl dst_122 ?_
                show Steps p.tables e below (T186.setTop (mkF m 123 #[.val (.ref r), .val (.int k1), .val (.int x2), .val (.ref st), .val (.ref nu), .val (.ref en), .val (.ref oa), .val (.int (k1 &&& (3 : Int32))), .val (.int (0 : Int32)), .val (.int tq)] [(.ref e0), (.ref e0)])) _
                exact kQ
              show OwnDone p e below _ (T186.setTop (mkF m 123 #[.val (.ref r), .val (.int k1), .val (.int x2), .val (.ref st), .val (.ref nu), .val (.ref en), .val (.ref oa), .val (.int (k1 &&& (3 : Int32))), .val (.int (0 : Int32)), .val (.int tq)] [(.ref e0), (.ref e0)]))
              refine OwnDone.go (A := (T186.setTop (mkF m 126 #[.val (.ref r), .val (.int k1), .val (.int x2), .val (.ref st), .val (.ref nu), .val (.ref en), .val (.ref oa), .val (.int (k1 &&& (3 : Int32))), .val (.int (0 : Int32)), .val (.int tq)] []))) (fun tQ kQ => XT.acmpNo P186.here hx rfl (hb hby dst_123) rfl rfl rfl (XT.aa_ne_f rfl) kQ) ?_
              show OwnDone p e below _ (T186.setTop (mkF m 126 #[.val (.ref r), .val (.int k1), .val (.int x2), .val (.ref st), .val (.ref nu), .val (.ref en), .val (.ref oa), .val (.int (k1 &&& (3 : Int32))), .val (.int (0 : Int32)), .val (.int tq)] []))
              refine OwnDone.go (A := (T186.setTop (mkF m 131 #[.val (.ref r), .val (.int k1), .val (.int x2), .val (.ref st), .val (.ref nu), .val (.ref en), .val (.ref oa), .val (.int (k1 &&& (3 : Int32))), .val (.int (0 : Int32)), .val (.int tq)] [(.int (1 : Int32))]))) (fun tQ kQ => ?_) ?_
              · refine XS.iconst P186.here hx rfl (hb hby dst_126) ?_
                show Steps p.tables e below (T186.setTop (mkF m 127 #[.val (.ref r), .val (.int k1), .val (.int x2), .val (.ref st), .val (.ref nu), .val (.ref en), .val (.ref oa), .val (.int (k1 &&& (3 : Int32))), .val (.int (0 : Int32)), .val (.int tq)] [(.int (1 : Int32))])) _
                refine XS.goto P186.here hx rfl (pc0 := 127) (pc' := 131) rfl (hb hby dst_127) (by decide) (by decide) ?_
                show Steps p.tables e below (T186.setTop (mkF m 131 #[.val (.ref r), .val (.int k1), .val (.int x2), .val (.ref st), .val (.ref nu), .val (.ref en), .val (.ref oa), .val (.int (k1 &&& (3 : Int32))), .val (.int (0 : Int32)), .val (.int tq)] [(.int (1 : Int32))])) _
                exact kQ
              show OwnDone p e below _ (T186.setTop (mkF m 131 #[.val (.ref r), .val (.int k1), .val (.int x2), .val (.ref st), .val (.ref nu), .val (.ref en), .val (.ref oa), .val (.int (k1 &&& (3 : Int32))), .val (.int (0 : Int32)), .val (.int tq)] [(.int (1 : Int32))]))
              refine own_retN C P186 (by simp) (z' := (1 : Int32)) (by decide) dst_131 (by decide) (by decide) ?_
              refine ⟨rfl, vd, (sl + (1 : Int32)), ow, (sz + (tq - (0 : Int32))), (rr.set (sl).toNatClampNeg (.ref nu)), (vv.set (sl).toNatClampNeg (.ref en)), (ff.set (sl).toNatClampNeg (.int (0 : Int32))), (tt.set (sl).toNatClampNeg (.int tq)), oo, ww, (.ref e0), s1, O178_r, Y179_aR, Y180_aV, Y181_aF, Y182_aT, Y183_aO, Y184_aW, Y169, Y185_en, ⟨laR156, laV156, laF156, laT156, lO, lW⟩, ?_, ?_, ?_, ?_⟩
              · exact own_inc bs (by omega)
              · exact ⟨bo.1, by have := bo.2; omega⟩
              · exact I1.imp id fun ⟨q1, q2, q3, q4, q5⟩ => ⟨q1, q2, q3, q4, (own_insK (own_insK q5 K156) K169)⟩
              · exact Or.inr ⟨own_incNe bs (by omega), e0, (0 : Int32), rfl, (by rw [j1]; exact List.getElem?_set_self (by rw [lF]; decide)), by decide, Or.inr ⟨(by rw [j1]; exact List.getElem?_set_self (by rw [lV]; decide)), rfl⟩⟩
            · obtain ⟨j1, b0, f, rfl, j2, j3, j4⟩ := I0
              show OwnDone p e below _ (T155.setTop (mkF m 77 #[.val (.ref r), .val (.int k1), .val (.int x2), .val (.ref st), .val (.ref nu), .val (.ref en), .val (.ref oa), .val (.int (k1 &&& (3 : Int32))), .val (.int (0 : Int32)), .val (.int tq)] [(.int tq), (.int (0 : Int32)), (.ref en), (.ref nu), (.ref r)]))
              refine own_callV (y := (⟨"com/example/tidx/tidx/index/Run", "add", "([I[[Ljava/lang/Object;II)V"⟩ : MethodName)) (z := (⟨"com/example/tidx/tidx/index/Run", "add", "([I[[Ljava/lang/Object;II)V"⟩ : MethodName)) (CC := "com/example/tidx/tidx/index/Run") C P155 Ob.1 (hw _ (List.mem_of_getElem? (i := 81) rfl)) (hw _ (List.mem_of_getElem? (i := 82) rfl)) (hw _ (List.mem_of_getElem? (i := 84) rfl)) (hw _ (List.mem_of_getElem? (i := 84) rfl)) (hw _ (List.mem_of_getElem? (i := 83) rfl)) (hw _ (List.mem_of_getElem? (i := 8) rfl)) (hw _ (List.mem_of_getElem? (i := 85) rfl)) (by decide) (rmal l Z a0 hw r nu en (0 : Int32) tq aR aV aF aT aO aW kR kV kF kT vd sl ow sz rr vv ff tt h0 P155.old g_r g_aR g_aV g_aF g_aT hst Ob YaR lR YaV lV YaF lF YaT lT (by omega) (by omega) (by omega) (by omega) s1_ s2_ In Ie VR VV) (as := [(.ref nu), (.ref en), (.int (0 : Int32)), (.int tq)]) (rest := []) pd_0 rfl rfl (wd := 0) rfl rfl dst_77 (allS (Or.inl (List.mem_of_getElem? (i := 1) rfl)) (allS (Or.inl (List.mem_of_getElem? (i := 2) rfl)) (allS (Or.inl (List.mem_of_getElem? (i := 3) rfl)) (allS (Or.inl (List.mem_of_getElem? (i := 4) rfl)) (allS (Or.inl (List.mem_of_getElem? (i := 5) rfl)) all0))))) (by decide) (by decide) (by decide) (by decide) (fun T187 h187 v187 P187 K187 hQ187 => ?_)
              obtain ⟨rfl, Ob187, YaR187, YaV187, YaF187, YaT187⟩ := hQ187
              have I188_nu := own_insK In K187
              have I189_en := own_insK Ie K187
              have I190_oa := own_insK Ia K187
              have I191_oa := own_insK Ib K187
              have I192_e0 := own_insK Ie0 K187
              have I193_e1 := own_insK Ie1 K187
              have I194_e2 := own_insK Ie2 K187
              have I195_e3 := own_insK Ie3 K187
              have Y196_aO := YaO.keep K187 (ninS (own_neL (by omega)) (ninS (own_neL (by omega)) (ninS (own_neL (by omega)) (ninS (own_neL (by omega)) (ninS (own_neL (by omega)) nin0)))))
              have Y197_aW := YaW.keep K187 (ninS (own_neL (by omega)) (ninS (own_neL (by omega)) (ninS (own_neL (by omega)) (ninS (own_neL (by omega)) (ninS (own_neL (by omega)) nin0)))))
              have Y198_st := Yst.keep K187 (ninS (own_neL (by omega)) (ninS (own_neL (by omega)) (ninS (own_neL (by omega)) (ninS (own_neL (by omega)) (ninS (own_neL (by omega)) nin0)))))
              have Y199_en := Yen.keep K187 (ninS (own_neL (by omega)) (ninS (own_neL (by omega)) (ninS (own_neL (by omega)) (ninS (own_neL (by omega)) (ninS (own_neL (by omega)) nin0)))))
              have laR187 : (rr.set (sl).toNatClampNeg (.ref nu)).length = 4 := by rw [List.length_set]; exact lR
              have laV187 : (vv.set (sl).toNatClampNeg (.ref en)).length = 4 := by rw [List.length_set]; exact lV
              have laF187 : (ff.set (sl).toNatClampNeg (.int (0 : Int32))).length = 4 := by rw [List.length_set]; exact lF
              have laT187 : (tt.set (sl).toNatClampNeg (.int tq)).length = 4 := by rw [List.length_set]; exact lT
              show OwnDone p e below _ (T187.setTop (mkF m 80 #[.val (.ref r), .val (.int k1), .val (.int x2), .val (.ref st), .val (.ref nu), .val (.ref en), .val (.ref oa), .val (.int (k1 &&& (3 : Int32))), .val (.int (0 : Int32)), .val (.int tq)] []))
              refine OwnDone.go (A := (T187.setTop (mkF m 84 #[.val (.ref r), .val (.int k1), .val (.int x2), .val (.ref st), .val (.ref nu), .val (.ref en), .val (.ref oa), .val (.int (k1 &&& (3 : Int32))), .val (.int (0 : Int32)), .val (.int tq)] [(.int tq), (.int (0 : Int32))]))) (fun tQ kQ => ?_) ?_
              · refine XS.iload P187.here hx rfl (hb hby dst_80) rfl ?_
                show Steps p.tables e below (T187.setTop (mkF m 82 #[.val (.ref r), .val (.int k1), .val (.int x2), .val (.ref st), .val (.ref nu), .val (.ref en), .val (.ref oa), .val (.int (k1 &&& (3 : Int32))), .val (.int (0 : Int32)), .val (.int tq)] [(.int (0 : Int32))])) _
                refine XS.iload P187.here hx rfl (hb hby dst_82) rfl ?_
                show Steps p.tables e below (T187.setTop (mkF m 84 #[.val (.ref r), .val (.int k1), .val (.int x2), .val (.ref st), .val (.ref nu), .val (.ref en), .val (.ref oa), .val (.int (k1 &&& (3 : Int32))), .val (.int (0 : Int32)), .val (.int tq)] [(.int tq), (.int (0 : Int32))])) _
                exact kQ
              show OwnDone p e below _ (T187.setTop (mkF m 84 #[.val (.ref r), .val (.int k1), .val (.int x2), .val (.ref st), .val (.ref nu), .val (.ref en), .val (.ref oa), .val (.int (k1 &&& (3 : Int32))), .val (.int (0 : Int32)), .val (.int tq)] [(.int tq), (.int (0 : Int32))]))
              refine OwnDone.go (A := (T187.setTop (mkF m 87 #[.val (.ref r), .val (.int k1), .val (.int x2), .val (.ref st), .val (.ref nu), .val (.ref en), .val (.ref oa), .val (.int (k1 &&& (3 : Int32))), .val (.int (0 : Int32)), .val (.int tq)] []))) (fun tQ kQ => XS.icmpNo P187.here hx rfl (hb hby dst_84) rfl (XT.ii_ge_f hst) kQ) ?_
              show OwnDone p e below _ (T187.setTop (mkF m 87 #[.val (.ref r), .val (.int k1), .val (.int x2), .val (.ref st), .val (.ref nu), .val (.ref en), .val (.ref oa), .val (.int (k1 &&& (3 : Int32))), .val (.int (0 : Int32)), .val (.int tq)] []))
              refine OwnDone.go (A := (T187.setTop (mkF m 90 #[.val (.ref r), .val (.int k1), .val (.int x2), .val (.ref st), .val (.ref nu), .val (.ref en), .val (.ref oa), .val (.int (k1 &&& (3 : Int32))), .val (.int (0 : Int32)), .val (.int tq)] [(.ref b0)]))) (fun tQ kQ => ?_) ?_
              · refine XS.aloadN P187.here hx rfl (hb hby dst_87) rfl rfl ?_
                show Steps p.tables e below (T187.setTop (mkF m 88 #[.val (.ref r), .val (.int k1), .val (.int x2), .val (.ref st), .val (.ref nu), .val (.ref en), .val (.ref oa), .val (.int (k1 &&& (3 : Int32))), .val (.int (0 : Int32)), .val (.int tq)] [(.ref st)])) _
                refine XS.iconst P187.here hx rfl (hb hby dst_88) ?_
                show Steps p.tables e below (T187.setTop (mkF m 89 #[.val (.ref r), .val (.int k1), .val (.int x2), .val (.ref st), .val (.ref nu), .val (.ref en), .val (.ref oa), .val (.int (k1 &&& (3 : Int32))), .val (.int (0 : Int32)), .val (.int tq)] [(.int (0 : Int32)), (.ref st)])) _
                refine own_aaload C P187 Y198_st rfl (by decide) rfl dst_89 ?_
                show Steps p.tables e below (T187.setTop (mkF m 90 #[.val (.ref r), .val (.int k1), .val (.int x2), .val (.ref st), .val (.ref nu), .val (.ref en), .val (.ref oa), .val (.int (k1 &&& (3 : Int32))), .val (.int (0 : Int32)), .val (.int tq)] [(.ref b0)])) _
                exact kQ
              show OwnDone p e below _ (T187.setTop (mkF m 90 #[.val (.ref r), .val (.int k1), .val (.int x2), .val (.ref st), .val (.ref nu), .val (.ref en), .val (.ref oa), .val (.int (k1 &&& (3 : Int32))), .val (.int (0 : Int32)), .val (.int tq)] [(.ref b0)]))
              refine OwnDone.go (A := (T187.setTop (mkF m 101 #[.val (.ref r), .val (.int k1), .val (.int x2), .val (.ref st), .val (.ref nu), .val (.ref en), .val (.ref oa), .val (.int (k1 &&& (3 : Int32))), .val (.int (0 : Int32)), .val (.int tq)] []))) (fun tQ kQ => XT.ifnonnullYes P187.here hx rfl (pc0 := 90) (pc' := 101) rfl (hb hby dst_90) rfl (by decide) (by decide) kQ) ?_
              show OwnDone p e below _ (T187.setTop (mkF m 101 #[.val (.ref r), .val (.int k1), .val (.int x2), .val (.ref st), .val (.ref nu), .val (.ref en), .val (.ref oa), .val (.int (k1 &&& (3 : Int32))), .val (.int (0 : Int32)), .val (.int tq)] []))
              refine OwnDone.go (A := (T187.setTop (mkF m 116 #[.val (.ref r), .val (.int k1), .val (.int x2), .val (.ref st), .val (.ref nu), .val (.ref en), .val (.ref oa), .val (.int (k1 &&& (3 : Int32))), .val (.int (0 : Int32)), .val (.int tq)] []))) (fun tQ kQ => ?_) ?_
              · refine XS.goto P187.here hx rfl (pc0 := 101) (pc' := 116) rfl (hb hby dst_101) (by decide) (by decide) ?_
                show Steps p.tables e below (T187.setTop (mkF m 116 #[.val (.ref r), .val (.int k1), .val (.int x2), .val (.ref st), .val (.ref nu), .val (.ref en), .val (.ref oa), .val (.int (k1 &&& (3 : Int32))), .val (.int (0 : Int32)), .val (.int tq)] [])) _
                exact kQ
              show OwnDone p e below _ (T187.setTop (mkF m 116 #[.val (.ref r), .val (.int k1), .val (.int x2), .val (.ref st), .val (.ref nu), .val (.ref en), .val (.ref oa), .val (.int (k1 &&& (3 : Int32))), .val (.int (0 : Int32)), .val (.int tq)] []))
              rcases j4 with j4 | j4
              · obtain ⟨j4, j5, j6⟩ := j4
                show OwnDone p e below _ (T187.setTop (mkF m 116 #[.val (.ref r), .val (.int k1), .val (.int x2), .val (.ref st), .val (.ref nu), .val (.ref en), .val (.ref oa), .val (.int (k1 &&& (3 : Int32))), .val (.int (0 : Int32)), .val (.int tq)] []))
                refine OwnDone.go (A := (T187.setTop (mkF m 117 #[.val (.ref r), .val (.int k1), .val (.int x2), .val (.ref st), .val (.ref nu), .val (.ref en), .val (.ref oa), .val (.int (k1 &&& (3 : Int32))), .val (.int (0 : Int32)), .val (.int tq)] [(.ref r)]))) (fun tQ kQ => ?_) ?_
                · refine XS.aloadN P187.here hx rfl (hb hby dst_116) rfl rfl ?_
                  show Steps p.tables e below (T187.setTop (mkF m 117 #[.val (.ref r), .val (.int k1), .val (.int x2), .val (.ref st), .val (.ref nu), .val (.ref en), .val (.ref oa), .val (.int (k1 &&& (3 : Int32))), .val (.int (0 : Int32)), .val (.int tq)] [(.ref r)])) _
                  exact kQ
                show OwnDone p e below _ (T187.setTop (mkF m 117 #[.val (.ref r), .val (.int k1), .val (.int x2), .val (.ref st), .val (.ref nu), .val (.ref en), .val (.ref oa), .val (.int (k1 &&& (3 : Int32))), .val (.int (0 : Int32)), .val (.int tq)] [(.ref r)]))
                refine own_callV (y := (⟨"com/example/tidx/tidx/index/Run", "first", "()[Ljava/lang/Object;"⟩ : MethodName)) (z := (⟨"com/example/tidx/tidx/index/Run", "first", "()[Ljava/lang/Object;"⟩ : MethodName)) (CC := "com/example/tidx/tidx/index/Run") C P187 Ob187.1 (hw _ (List.mem_of_getElem? (i := 34) rfl)) (hw _ (List.mem_of_getElem? (i := 35) rfl)) (hw _ (List.mem_of_getElem? (i := 37) rfl)) (hw _ (List.mem_of_getElem? (i := 37) rfl)) (hw _ (List.mem_of_getElem? (i := 36) rfl)) (hw _ (List.mem_of_getElem? (i := 8) rfl)) (hw _ (List.mem_of_getElem? (i := 38) rfl)) (by decide) (rmfb l Z a0 hw r aR aV aF aT aO aW kV kF kW vd (sl + (1 : Int32)) ow (sz + (tq - (0 : Int32))) (vv.set (sl).toNatClampNeg (.ref en)) (ff.set (sl).toNatClampNeg (.int (0 : Int32))) ww aW b0 f h187 P187.old Ob187 YaV187 YaF187 Y197_aW (own_incNe bs (by omega)) ((List.getElem?_set_ne (own_ne0 bs.1 j1)).trans j4) ((List.getElem?_set_ne (own_ne0 bs.1 j1)).trans j2) j3 j5) (as := []) (rest := []) pd_4 rfl rfl (wd := 0) rfl rfl dst_117 all0 (by decide) (by decide) (by decide) (by decide) (fun T200 h200 v200 P200 K200 hQ200 => ?_)
                obtain ⟨rfl, rfl⟩ := hQ200
                show OwnDone p e below _ (T200.setTop (mkF m 120 #[.val (.ref r), .val (.int k1), .val (.int x2), .val (.ref st), .val (.ref nu), .val (.ref en), .val (.ref oa), .val (.int (k1 &&& (3 : Int32))), .val (.int (0 : Int32)), .val (.int tq)] [(.ref b0)]))
                refine OwnDone.go (A := (T200.setTop (mkF m 123 #[.val (.ref r), .val (.int k1), .val (.int x2), .val (.ref st), .val (.ref nu), .val (.ref en), .val (.ref oa), .val (.int (k1 &&& (3 : Int32))), .val (.int (0 : Int32)), .val (.int tq)] [(.ref b0), (.ref b0)]))) (fun tQ kQ => ?_) ?_
                · refine XS.aloadN P200.here hx rfl (hb hby dst_120) rfl rfl ?_
                  show Steps p.tables e below (T200.setTop (mkF m 121 #[.val (.ref r), .val (.int k1), .val (.int x2), .val (.ref st), .val (.ref nu), .val (.ref en), .val (.ref oa), .val (.int (k1 &&& (3 : Int32))), .val (.int (0 : Int32)), .val (.int tq)] [(.ref st), (.ref b0)])) _
                  refine XS.iconst P200.here hx rfl (hb hby dst_121) ?_
                  show Steps p.tables e below (T200.setTop (mkF m 122 #[.val (.ref r), .val (.int k1), .val (.int x2), .val (.ref st), .val (.ref nu), .val (.ref en), .val (.ref oa), .val (.int (k1 &&& (3 : Int32))), .val (.int (0 : Int32)), .val (.int tq)] [(.int (0 : Int32)), (.ref st), (.ref b0)])) _
                  refine own_aaload C P200 Y198_st rfl (by decide) rfl dst_122 ?_
                  show Steps p.tables e below (T200.setTop (mkF m 123 #[.val (.ref r), .val (.int k1), .val (.int x2), .val (.ref st), .val (.ref nu), .val (.ref en), .val (.ref oa), .val (.int (k1 &&& (3 : Int32))), .val (.int (0 : Int32)), .val (.int tq)] [(.ref b0), (.ref b0)])) _
                  exact kQ
                show OwnDone p e below _ (T200.setTop (mkF m 123 #[.val (.ref r), .val (.int k1), .val (.int x2), .val (.ref st), .val (.ref nu), .val (.ref en), .val (.ref oa), .val (.int (k1 &&& (3 : Int32))), .val (.int (0 : Int32)), .val (.int tq)] [(.ref b0), (.ref b0)]))
                refine OwnDone.go (A := (T200.setTop (mkF m 126 #[.val (.ref r), .val (.int k1), .val (.int x2), .val (.ref st), .val (.ref nu), .val (.ref en), .val (.ref oa), .val (.int (k1 &&& (3 : Int32))), .val (.int (0 : Int32)), .val (.int tq)] []))) (fun tQ kQ => XT.acmpNo P200.here hx rfl (hb hby dst_123) rfl rfl rfl (XT.aa_ne_f rfl) kQ) ?_
                show OwnDone p e below _ (T200.setTop (mkF m 126 #[.val (.ref r), .val (.int k1), .val (.int x2), .val (.ref st), .val (.ref nu), .val (.ref en), .val (.ref oa), .val (.int (k1 &&& (3 : Int32))), .val (.int (0 : Int32)), .val (.int tq)] []))
                refine OwnDone.go (A := (T200.setTop (mkF m 131 #[.val (.ref r), .val (.int k1), .val (.int x2), .val (.ref st), .val (.ref nu), .val (.ref en), .val (.ref oa), .val (.int (k1 &&& (3 : Int32))), .val (.int (0 : Int32)), .val (.int tq)] [(.int (1 : Int32))]))) (fun tQ kQ => ?_) ?_
                · refine XS.iconst P200.here hx rfl (hb hby dst_126) ?_
                  show Steps p.tables e below (T200.setTop (mkF m 127 #[.val (.ref r), .val (.int k1), .val (.int x2), .val (.ref st), .val (.ref nu), .val (.ref en), .val (.ref oa), .val (.int (k1 &&& (3 : Int32))), .val (.int (0 : Int32)), .val (.int tq)] [(.int (1 : Int32))])) _
                  refine XS.goto P200.here hx rfl (pc0 := 127) (pc' := 131) rfl (hb hby dst_127) (by decide) (by decide) ?_
                  show Steps p.tables e below (T200.setTop (mkF m 131 #[.val (.ref r), .val (.int k1), .val (.int x2), .val (.ref st), .val (.ref nu), .val (.ref en), .val (.ref oa), .val (.int (k1 &&& (3 : Int32))), .val (.int (0 : Int32)), .val (.int tq)] [(.int (1 : Int32))])) _
                  exact kQ
                show OwnDone p e below _ (T200.setTop (mkF m 131 #[.val (.ref r), .val (.int k1), .val (.int x2), .val (.ref st), .val (.ref nu), .val (.ref en), .val (.ref oa), .val (.int (k1 &&& (3 : Int32))), .val (.int (0 : Int32)), .val (.int tq)] [(.int (1 : Int32))]))
                refine own_retN C P200 (by simp) (z' := (1 : Int32)) (by decide) dst_131 (by decide) (by decide) ?_
                refine ⟨rfl, vd, (sl + (1 : Int32)), ow, (sz + (tq - (0 : Int32))), (rr.set (sl).toNatClampNeg (.ref nu)), (vv.set (sl).toNatClampNeg (.ref en)), (ff.set (sl).toNatClampNeg (.int (0 : Int32))), (tt.set (sl).toNatClampNeg (.int tq)), oo, ww, (.ref b0), s1, Ob187, YaR187, YaV187, YaF187, YaT187, Y196_aO, Y197_aW, Y198_st, Y199_en, ⟨laR187, laV187, laF187, laT187, lO, lW⟩, ?_, ?_, ?_, ?_⟩
                · exact own_inc bs (by omega)
                · exact ⟨bo.1, by have := bo.2; omega⟩
                · exact I1.imp id fun ⟨q1, q2, q3, q4, q5⟩ => ⟨q1, q2, q3, q4, (own_insK q5 K187)⟩
                · exact Or.inr ⟨own_incNe bs (by omega), b0, f, rfl, (List.getElem?_set_ne (own_ne0 bs.1 j1)).trans j2, j3, Or.inl ⟨(List.getElem?_set_ne (own_ne0 bs.1 j1)).trans j4, j5, j6⟩⟩
              · obtain ⟨j4, j5⟩ := j4
                show OwnDone p e below _ (T187.setTop (mkF m 116 #[.val (.ref r), .val (.int k1), .val (.int x2), .val (.ref st), .val (.ref nu), .val (.ref en), .val (.ref oa), .val (.int (k1 &&& (3 : Int32))), .val (.int (0 : Int32)), .val (.int tq)] []))
                refine OwnDone.go (A := (T187.setTop (mkF m 117 #[.val (.ref r), .val (.int k1), .val (.int x2), .val (.ref st), .val (.ref nu), .val (.ref en), .val (.ref oa), .val (.int (k1 &&& (3 : Int32))), .val (.int (0 : Int32)), .val (.int tq)] [(.ref r)]))) (fun tQ kQ => ?_) ?_
                · refine XS.aloadN P187.here hx rfl (hb hby dst_116) rfl rfl ?_
                  show Steps p.tables e below (T187.setTop (mkF m 117 #[.val (.ref r), .val (.int k1), .val (.int x2), .val (.ref st), .val (.ref nu), .val (.ref en), .val (.ref oa), .val (.int (k1 &&& (3 : Int32))), .val (.int (0 : Int32)), .val (.int tq)] [(.ref r)])) _
                  exact kQ
                show OwnDone p e below _ (T187.setTop (mkF m 117 #[.val (.ref r), .val (.int k1), .val (.int x2), .val (.ref st), .val (.ref nu), .val (.ref en), .val (.ref oa), .val (.int (k1 &&& (3 : Int32))), .val (.int (0 : Int32)), .val (.int tq)] [(.ref r)]))
                refine own_callV (y := (⟨"com/example/tidx/tidx/index/Run", "first", "()[Ljava/lang/Object;"⟩ : MethodName)) (z := (⟨"com/example/tidx/tidx/index/Run", "first", "()[Ljava/lang/Object;"⟩ : MethodName)) (CC := "com/example/tidx/tidx/index/Run") C P187 Ob187.1 (hw _ (List.mem_of_getElem? (i := 34) rfl)) (hw _ (List.mem_of_getElem? (i := 35) rfl)) (hw _ (List.mem_of_getElem? (i := 37) rfl)) (hw _ (List.mem_of_getElem? (i := 37) rfl)) (hw _ (List.mem_of_getElem? (i := 36) rfl)) (hw _ (List.mem_of_getElem? (i := 8) rfl)) (hw _ (List.mem_of_getElem? (i := 38) rfl)) (by decide) (rmfb l Z a0 hw r aR aV aF aT aO aW kV kF kE vd (sl + (1 : Int32)) ow (sz + (tq - (0 : Int32))) (vv.set (sl).toNatClampNeg (.ref en)) (ff.set (sl).toNatClampNeg (.int (0 : Int32))) [(.ref e0), (.ref e1), (.ref e2), (.ref e3)] en b0 f h187 P187.old Ob187 YaV187 YaF187 Y199_en (own_incNe bs (by omega)) ((List.getElem?_set_ne (own_ne0 bs.1 j1)).trans j4) ((List.getElem?_set_ne (own_ne0 bs.1 j1)).trans j2) j3 j5) (as := []) (rest := []) pd_4 rfl rfl (wd := 0) rfl rfl dst_117 all0 (by decide) (by decide) (by decide) (by decide) (fun T201 h201 v201 P201 K201 hQ201 => ?_)
                obtain ⟨rfl, rfl⟩ := hQ201
                show OwnDone p e below _ (T201.setTop (mkF m 120 #[.val (.ref r), .val (.int k1), .val (.int x2), .val (.ref st), .val (.ref nu), .val (.ref en), .val (.ref oa), .val (.int (k1 &&& (3 : Int32))), .val (.int (0 : Int32)), .val (.int tq)] [(.ref b0)]))
                refine OwnDone.go (A := (T201.setTop (mkF m 123 #[.val (.ref r), .val (.int k1), .val (.int x2), .val (.ref st), .val (.ref nu), .val (.ref en), .val (.ref oa), .val (.int (k1 &&& (3 : Int32))), .val (.int (0 : Int32)), .val (.int tq)] [(.ref b0), (.ref b0)]))) (fun tQ kQ => ?_) ?_
                · refine XS.aloadN P201.here hx rfl (hb hby dst_120) rfl rfl ?_
                  show Steps p.tables e below (T201.setTop (mkF m 121 #[.val (.ref r), .val (.int k1), .val (.int x2), .val (.ref st), .val (.ref nu), .val (.ref en), .val (.ref oa), .val (.int (k1 &&& (3 : Int32))), .val (.int (0 : Int32)), .val (.int tq)] [(.ref st), (.ref b0)])) _
                  refine XS.iconst P201.here hx rfl (hb hby dst_121) ?_
                  show Steps p.tables e below (T201.setTop (mkF m 122 #[.val (.ref r), .val (.int k1), .val (.int x2), .val (.ref st), .val (.ref nu), .val (.ref en), .val (.ref oa), .val (.int (k1 &&& (3 : Int32))), .val (.int (0 : Int32)), .val (.int tq)] [(.int (0 : Int32)), (.ref st), (.ref b0)])) _
                  refine own_aaload C P201 Y198_st rfl (by decide) rfl dst_122 ?_
                  show Steps p.tables e below (T201.setTop (mkF m 123 #[.val (.ref r), .val (.int k1), .val (.int x2), .val (.ref st), .val (.ref nu), .val (.ref en), .val (.ref oa), .val (.int (k1 &&& (3 : Int32))), .val (.int (0 : Int32)), .val (.int tq)] [(.ref b0), (.ref b0)])) _
                  exact kQ
                show OwnDone p e below _ (T201.setTop (mkF m 123 #[.val (.ref r), .val (.int k1), .val (.int x2), .val (.ref st), .val (.ref nu), .val (.ref en), .val (.ref oa), .val (.int (k1 &&& (3 : Int32))), .val (.int (0 : Int32)), .val (.int tq)] [(.ref b0), (.ref b0)]))
                refine OwnDone.go (A := (T201.setTop (mkF m 126 #[.val (.ref r), .val (.int k1), .val (.int x2), .val (.ref st), .val (.ref nu), .val (.ref en), .val (.ref oa), .val (.int (k1 &&& (3 : Int32))), .val (.int (0 : Int32)), .val (.int tq)] []))) (fun tQ kQ => XT.acmpNo P201.here hx rfl (hb hby dst_123) rfl rfl rfl (XT.aa_ne_f rfl) kQ) ?_
                show OwnDone p e below _ (T201.setTop (mkF m 126 #[.val (.ref r), .val (.int k1), .val (.int x2), .val (.ref st), .val (.ref nu), .val (.ref en), .val (.ref oa), .val (.int (k1 &&& (3 : Int32))), .val (.int (0 : Int32)), .val (.int tq)] []))
                refine OwnDone.go (A := (T201.setTop (mkF m 131 #[.val (.ref r), .val (.int k1), .val (.int x2), .val (.ref st), .val (.ref nu), .val (.ref en), .val (.ref oa), .val (.int (k1 &&& (3 : Int32))), .val (.int (0 : Int32)), .val (.int tq)] [(.int (1 : Int32))]))) (fun tQ kQ => ?_) ?_
                · refine XS.iconst P201.here hx rfl (hb hby dst_126) ?_
                  show Steps p.tables e below (T201.setTop (mkF m 127 #[.val (.ref r), .val (.int k1), .val (.int x2), .val (.ref st), .val (.ref nu), .val (.ref en), .val (.ref oa), .val (.int (k1 &&& (3 : Int32))), .val (.int (0 : Int32)), .val (.int tq)] [(.int (1 : Int32))])) _
                  refine XS.goto P201.here hx rfl (pc0 := 127) (pc' := 131) rfl (hb hby dst_127) (by decide) (by decide) ?_
                  show Steps p.tables e below (T201.setTop (mkF m 131 #[.val (.ref r), .val (.int k1), .val (.int x2), .val (.ref st), .val (.ref nu), .val (.ref en), .val (.ref oa), .val (.int (k1 &&& (3 : Int32))), .val (.int (0 : Int32)), .val (.int tq)] [(.int (1 : Int32))])) _
                  exact kQ
                show OwnDone p e below _ (T201.setTop (mkF m 131 #[.val (.ref r), .val (.int k1), .val (.int x2), .val (.ref st), .val (.ref nu), .val (.ref en), .val (.ref oa), .val (.int (k1 &&& (3 : Int32))), .val (.int (0 : Int32)), .val (.int tq)] [(.int (1 : Int32))]))
                refine own_retN C P201 (by simp) (z' := (1 : Int32)) (by decide) dst_131 (by decide) (by decide) ?_
                refine ⟨rfl, vd, (sl + (1 : Int32)), ow, (sz + (tq - (0 : Int32))), (rr.set (sl).toNatClampNeg (.ref nu)), (vv.set (sl).toNatClampNeg (.ref en)), (ff.set (sl).toNatClampNeg (.int (0 : Int32))), (tt.set (sl).toNatClampNeg (.int tq)), oo, ww, (.ref b0), s1, Ob187, YaR187, YaV187, YaF187, YaT187, Y196_aO, Y197_aW, Y198_st, Y199_en, ⟨laR187, laV187, laF187, laT187, lO, lW⟩, ?_, ?_, ?_, ?_⟩
                · exact own_inc bs (by omega)
                · exact ⟨bo.1, by have := bo.2; omega⟩
                · exact I1.imp id fun ⟨q1, q2, q3, q4, q5⟩ => ⟨q1, q2, q3, q4, (own_insK q5 K187)⟩
                · exact Or.inr ⟨own_incNe bs (by omega), b0, f, rfl, (List.getElem?_set_ne (own_ne0 bs.1 j1)).trans j2, j3, Or.inr ⟨(List.getElem?_set_ne (own_ne0 bs.1 j1)).trans j4, j5⟩⟩
          · rcases I0 with I0 | I0
            · obtain ⟨j1, rfl⟩ := I0
              show OwnDone p e below _ (T155.setTop (mkF m 77 #[.val (.ref r), .val (.int k1), .val (.int x2), .val (.ref st), .val (.ref nu), .val (.ref en), .val (.ref oa), .val (.int (k1 &&& (3 : Int32))), .val (.int (0 : Int32)), .val (.int tq)] [(.int tq), (.int (0 : Int32)), (.ref en), (.ref nu), (.ref r)]))
              refine own_callV (y := (⟨"com/example/tidx/tidx/index/Run", "add", "([I[[Ljava/lang/Object;II)V"⟩ : MethodName)) (z := (⟨"com/example/tidx/tidx/index/Run", "add", "([I[[Ljava/lang/Object;II)V"⟩ : MethodName)) (CC := "com/example/tidx/tidx/index/Run") C P155 Ob.1 (hw _ (List.mem_of_getElem? (i := 81) rfl)) (hw _ (List.mem_of_getElem? (i := 82) rfl)) (hw _ (List.mem_of_getElem? (i := 84) rfl)) (hw _ (List.mem_of_getElem? (i := 84) rfl)) (hw _ (List.mem_of_getElem? (i := 83) rfl)) (hw _ (List.mem_of_getElem? (i := 8) rfl)) (hw _ (List.mem_of_getElem? (i := 85) rfl)) (by decide) (rmag l Z a0 hw r nu en (0 : Int32) tq h0 P155.old hst) (as := [(.ref nu), (.ref en), (.int (0 : Int32)), (.int tq)]) (rest := []) pd_0 rfl rfl (wd := 0) rfl rfl dst_77 all0 (by decide) (by decide) (by decide) (by decide) (fun T202 h202 v202 P202 K202 hQ202 => ?_)
              obtain ⟨rfl, rfl⟩ := hQ202
              show OwnDone p e below _ (T202.setTop (mkF m 80 #[.val (.ref r), .val (.int k1), .val (.int x2), .val (.ref st), .val (.ref nu), .val (.ref en), .val (.ref oa), .val (.int (k1 &&& (3 : Int32))), .val (.int (0 : Int32)), .val (.int tq)] []))
              refine OwnDone.go (A := (T202.setTop (mkF m 84 #[.val (.ref r), .val (.int k1), .val (.int x2), .val (.ref st), .val (.ref nu), .val (.ref en), .val (.ref oa), .val (.int (k1 &&& (3 : Int32))), .val (.int (0 : Int32)), .val (.int tq)] [(.int tq), (.int (0 : Int32))]))) (fun tQ kQ => ?_) ?_
              · refine XS.iload P202.here hx rfl (hb hby dst_80) rfl ?_
                show Steps p.tables e below (T202.setTop (mkF m 82 #[.val (.ref r), .val (.int k1), .val (.int x2), .val (.ref st), .val (.ref nu), .val (.ref en), .val (.ref oa), .val (.int (k1 &&& (3 : Int32))), .val (.int (0 : Int32)), .val (.int tq)] [(.int (0 : Int32))])) _
                refine XS.iload P202.here hx rfl (hb hby dst_82) rfl ?_
                show Steps p.tables e below (T202.setTop (mkF m 84 #[.val (.ref r), .val (.int k1), .val (.int x2), .val (.ref st), .val (.ref nu), .val (.ref en), .val (.ref oa), .val (.int (k1 &&& (3 : Int32))), .val (.int (0 : Int32)), .val (.int tq)] [(.int tq), (.int (0 : Int32))])) _
                exact kQ
              show OwnDone p e below _ (T202.setTop (mkF m 84 #[.val (.ref r), .val (.int k1), .val (.int x2), .val (.ref st), .val (.ref nu), .val (.ref en), .val (.ref oa), .val (.int (k1 &&& (3 : Int32))), .val (.int (0 : Int32)), .val (.int tq)] [(.int tq), (.int (0 : Int32))]))
              refine OwnDone.go (A := (T202.setTop (mkF m 101 #[.val (.ref r), .val (.int k1), .val (.int x2), .val (.ref st), .val (.ref nu), .val (.ref en), .val (.ref oa), .val (.int (k1 &&& (3 : Int32))), .val (.int (0 : Int32)), .val (.int tq)] []))) (fun tQ kQ => XS.icmpYes P202.here hx rfl (pc0 := 84) (pc' := 101) rfl (hb hby dst_84) rfl (XT.ii_ge_t hst) (by decide) (by decide) kQ) ?_
              show OwnDone p e below _ (T202.setTop (mkF m 101 #[.val (.ref r), .val (.int k1), .val (.int x2), .val (.ref st), .val (.ref nu), .val (.ref en), .val (.ref oa), .val (.int (k1 &&& (3 : Int32))), .val (.int (0 : Int32)), .val (.int tq)] []))
              refine OwnDone.go (A := (T202.setTop (mkF m 116 #[.val (.ref r), .val (.int k1), .val (.int x2), .val (.ref st), .val (.ref nu), .val (.ref en), .val (.ref oa), .val (.int (k1 &&& (3 : Int32))), .val (.int (0 : Int32)), .val (.int tq)] []))) (fun tQ kQ => ?_) ?_
              · refine XS.goto P202.here hx rfl (pc0 := 101) (pc' := 116) rfl (hb hby dst_101) (by decide) (by decide) ?_
                show Steps p.tables e below (T202.setTop (mkF m 116 #[.val (.ref r), .val (.int k1), .val (.int x2), .val (.ref st), .val (.ref nu), .val (.ref en), .val (.ref oa), .val (.int (k1 &&& (3 : Int32))), .val (.int (0 : Int32)), .val (.int tq)] [])) _
                exact kQ
              show OwnDone p e below _ (T202.setTop (mkF m 116 #[.val (.ref r), .val (.int k1), .val (.int x2), .val (.ref st), .val (.ref nu), .val (.ref en), .val (.ref oa), .val (.int (k1 &&& (3 : Int32))), .val (.int (0 : Int32)), .val (.int tq)] []))
              subst j1
              refine OwnDone.go (A := (T202.setTop (mkF m 117 #[.val (.ref r), .val (.int k1), .val (.int x2), .val (.ref st), .val (.ref nu), .val (.ref en), .val (.ref oa), .val (.int (k1 &&& (3 : Int32))), .val (.int (0 : Int32)), .val (.int tq)] [(.ref r)]))) (fun tQ kQ => ?_) ?_
              · refine XS.aloadN P202.here hx rfl (hb hby dst_116) rfl rfl ?_
                show Steps p.tables e below (T202.setTop (mkF m 117 #[.val (.ref r), .val (.int k1), .val (.int x2), .val (.ref st), .val (.ref nu), .val (.ref en), .val (.ref oa), .val (.int (k1 &&& (3 : Int32))), .val (.int (0 : Int32)), .val (.int tq)] [(.ref r)])) _
                exact kQ
              show OwnDone p e below _ (T202.setTop (mkF m 117 #[.val (.ref r), .val (.int k1), .val (.int x2), .val (.ref st), .val (.ref nu), .val (.ref en), .val (.ref oa), .val (.int (k1 &&& (3 : Int32))), .val (.int (0 : Int32)), .val (.int tq)] [(.ref r)]))
              refine own_callV (y := (⟨"com/example/tidx/tidx/index/Run", "first", "()[Ljava/lang/Object;"⟩ : MethodName)) (z := (⟨"com/example/tidx/tidx/index/Run", "first", "()[Ljava/lang/Object;"⟩ : MethodName)) (CC := "com/example/tidx/tidx/index/Run") C P202 Ob.1 (hw _ (List.mem_of_getElem? (i := 34) rfl)) (hw _ (List.mem_of_getElem? (i := 35) rfl)) (hw _ (List.mem_of_getElem? (i := 37) rfl)) (hw _ (List.mem_of_getElem? (i := 37) rfl)) (hw _ (List.mem_of_getElem? (i := 36) rfl)) (hw _ (List.mem_of_getElem? (i := 8) rfl)) (hw _ (List.mem_of_getElem? (i := 38) rfl)) (by decide) (rmfa l Z a0 hw r aR aV aF aT aO aW vd ow sz h0 P202.old Ob) (as := []) (rest := []) pd_4 rfl rfl (wd := 0) rfl rfl dst_117 all0 (by decide) (by decide) (by decide) (by decide) (fun T203 h203 v203 P203 K203 hQ203 => ?_)
              obtain ⟨rfl, rfl⟩ := hQ203
              show OwnDone p e below _ (T203.setTop (mkF m 120 #[.val (.ref r), .val (.int k1), .val (.int x2), .val (.ref st), .val (.ref nu), .val (.ref en), .val (.ref oa), .val (.int (k1 &&& (3 : Int32))), .val (.int (0 : Int32)), .val (.int tq)] [.null]))
              refine OwnDone.go (A := (T203.setTop (mkF m 123 #[.val (.ref r), .val (.int k1), .val (.int x2), .val (.ref st), .val (.ref nu), .val (.ref en), .val (.ref oa), .val (.int (k1 &&& (3 : Int32))), .val (.int (0 : Int32)), .val (.int tq)] [.null, .null]))) (fun tQ kQ => ?_) ?_
              · refine XS.aloadN P203.here hx rfl (hb hby dst_120) rfl rfl ?_
                show Steps p.tables e below (T203.setTop (mkF m 121 #[.val (.ref r), .val (.int k1), .val (.int x2), .val (.ref st), .val (.ref nu), .val (.ref en), .val (.ref oa), .val (.int (k1 &&& (3 : Int32))), .val (.int (0 : Int32)), .val (.int tq)] [(.ref st), .null])) _
                refine XS.iconst P203.here hx rfl (hb hby dst_121) ?_
                show Steps p.tables e below (T203.setTop (mkF m 122 #[.val (.ref r), .val (.int k1), .val (.int x2), .val (.ref st), .val (.ref nu), .val (.ref en), .val (.ref oa), .val (.int (k1 &&& (3 : Int32))), .val (.int (0 : Int32)), .val (.int tq)] [(.int (0 : Int32)), (.ref st), .null])) _
                refine own_aaload C P203 Yst rfl (by decide) rfl dst_122 ?_
                show Steps p.tables e below (T203.setTop (mkF m 123 #[.val (.ref r), .val (.int k1), .val (.int x2), .val (.ref st), .val (.ref nu), .val (.ref en), .val (.ref oa), .val (.int (k1 &&& (3 : Int32))), .val (.int (0 : Int32)), .val (.int tq)] [.null, .null])) _
                exact kQ
              show OwnDone p e below _ (T203.setTop (mkF m 123 #[.val (.ref r), .val (.int k1), .val (.int x2), .val (.ref st), .val (.ref nu), .val (.ref en), .val (.ref oa), .val (.int (k1 &&& (3 : Int32))), .val (.int (0 : Int32)), .val (.int tq)] [.null, .null]))
              refine OwnDone.go (A := (T203.setTop (mkF m 126 #[.val (.ref r), .val (.int k1), .val (.int x2), .val (.ref st), .val (.ref nu), .val (.ref en), .val (.ref oa), .val (.int (k1 &&& (3 : Int32))), .val (.int (0 : Int32)), .val (.int tq)] []))) (fun tQ kQ => XT.acmpNo P203.here hx rfl (hb hby dst_123) rfl rfl rfl (XT.aa_ne_f rfl) kQ) ?_
              show OwnDone p e below _ (T203.setTop (mkF m 126 #[.val (.ref r), .val (.int k1), .val (.int x2), .val (.ref st), .val (.ref nu), .val (.ref en), .val (.ref oa), .val (.int (k1 &&& (3 : Int32))), .val (.int (0 : Int32)), .val (.int tq)] []))
              refine OwnDone.go (A := (T203.setTop (mkF m 131 #[.val (.ref r), .val (.int k1), .val (.int x2), .val (.ref st), .val (.ref nu), .val (.ref en), .val (.ref oa), .val (.int (k1 &&& (3 : Int32))), .val (.int (0 : Int32)), .val (.int tq)] [(.int (1 : Int32))]))) (fun tQ kQ => ?_) ?_
              · refine XS.iconst P203.here hx rfl (hb hby dst_126) ?_
                show Steps p.tables e below (T203.setTop (mkF m 127 #[.val (.ref r), .val (.int k1), .val (.int x2), .val (.ref st), .val (.ref nu), .val (.ref en), .val (.ref oa), .val (.int (k1 &&& (3 : Int32))), .val (.int (0 : Int32)), .val (.int tq)] [(.int (1 : Int32))])) _
                refine XS.goto P203.here hx rfl (pc0 := 127) (pc' := 131) rfl (hb hby dst_127) (by decide) (by decide) ?_
                show Steps p.tables e below (T203.setTop (mkF m 131 #[.val (.ref r), .val (.int k1), .val (.int x2), .val (.ref st), .val (.ref nu), .val (.ref en), .val (.ref oa), .val (.int (k1 &&& (3 : Int32))), .val (.int (0 : Int32)), .val (.int tq)] [(.int (1 : Int32))])) _
                exact kQ
              show OwnDone p e below _ (T203.setTop (mkF m 131 #[.val (.ref r), .val (.int k1), .val (.int x2), .val (.ref st), .val (.ref nu), .val (.ref en), .val (.ref oa), .val (.int (k1 &&& (3 : Int32))), .val (.int (0 : Int32)), .val (.int tq)] [(.int (1 : Int32))]))
              refine own_retN C P203 (by simp) (z' := (1 : Int32)) (by decide) dst_131 (by decide) (by decide) ?_
              refine ⟨rfl, vd, (0 : Int32), ow, sz, rr, vv, ff, tt, oo, ww, .null, s1, Ob, YaR, YaV, YaF, YaT, YaO, YaW, Yst, Yen, ⟨lR, lV, lF, lT, lO, lW⟩, ?_, ?_, ?_, ?_⟩
              · exact ⟨bs.1, by have := bs.2; omega⟩
              · exact ⟨bo.1, by have := bo.2; omega⟩
              · exact I1.imp id fun ⟨q1, q2, q3, q4, q5⟩ => ⟨q1, q2, q3, q4, q5⟩
              · exact Or.inl ⟨rfl, rfl⟩
            · obtain ⟨j1, b0, f, rfl, j2, j3, j4⟩ := I0
              show OwnDone p e below _ (T155.setTop (mkF m 77 #[.val (.ref r), .val (.int k1), .val (.int x2), .val (.ref st), .val (.ref nu), .val (.ref en), .val (.ref oa), .val (.int (k1 &&& (3 : Int32))), .val (.int (0 : Int32)), .val (.int tq)] [(.int tq), (.int (0 : Int32)), (.ref en), (.ref nu), (.ref r)]))
              refine own_callV (y := (⟨"com/example/tidx/tidx/index/Run", "add", "([I[[Ljava/lang/Object;II)V"⟩ : MethodName)) (z := (⟨"com/example/tidx/tidx/index/Run", "add", "([I[[Ljava/lang/Object;II)V"⟩ : MethodName)) (CC := "com/example/tidx/tidx/index/Run") C P155 Ob.1 (hw _ (List.mem_of_getElem? (i := 81) rfl)) (hw _ (List.mem_of_getElem? (i := 82) rfl)) (hw _ (List.mem_of_getElem? (i := 84) rfl)) (hw _ (List.mem_of_getElem? (i := 84) rfl)) (hw _ (List.mem_of_getElem? (i := 83) rfl)) (hw _ (List.mem_of_getElem? (i := 8) rfl)) (hw _ (List.mem_of_getElem? (i := 85) rfl)) (by decide) (rmag l Z a0 hw r nu en (0 : Int32) tq h0 P155.old hst) (as := [(.ref nu), (.ref en), (.int (0 : Int32)), (.int tq)]) (rest := []) pd_0 rfl rfl (wd := 0) rfl rfl dst_77 all0 (by decide) (by decide) (by decide) (by decide) (fun T204 h204 v204 P204 K204 hQ204 => ?_)
              obtain ⟨rfl, rfl⟩ := hQ204
              show OwnDone p e below _ (T204.setTop (mkF m 80 #[.val (.ref r), .val (.int k1), .val (.int x2), .val (.ref st), .val (.ref nu), .val (.ref en), .val (.ref oa), .val (.int (k1 &&& (3 : Int32))), .val (.int (0 : Int32)), .val (.int tq)] []))
              refine OwnDone.go (A := (T204.setTop (mkF m 84 #[.val (.ref r), .val (.int k1), .val (.int x2), .val (.ref st), .val (.ref nu), .val (.ref en), .val (.ref oa), .val (.int (k1 &&& (3 : Int32))), .val (.int (0 : Int32)), .val (.int tq)] [(.int tq), (.int (0 : Int32))]))) (fun tQ kQ => ?_) ?_
              · refine XS.iload P204.here hx rfl (hb hby dst_80) rfl ?_
                show Steps p.tables e below (T204.setTop (mkF m 82 #[.val (.ref r), .val (.int k1), .val (.int x2), .val (.ref st), .val (.ref nu), .val (.ref en), .val (.ref oa), .val (.int (k1 &&& (3 : Int32))), .val (.int (0 : Int32)), .val (.int tq)] [(.int (0 : Int32))])) _
                refine XS.iload P204.here hx rfl (hb hby dst_82) rfl ?_
                show Steps p.tables e below (T204.setTop (mkF m 84 #[.val (.ref r), .val (.int k1), .val (.int x2), .val (.ref st), .val (.ref nu), .val (.ref en), .val (.ref oa), .val (.int (k1 &&& (3 : Int32))), .val (.int (0 : Int32)), .val (.int tq)] [(.int tq), (.int (0 : Int32))])) _
                exact kQ
              show OwnDone p e below _ (T204.setTop (mkF m 84 #[.val (.ref r), .val (.int k1), .val (.int x2), .val (.ref st), .val (.ref nu), .val (.ref en), .val (.ref oa), .val (.int (k1 &&& (3 : Int32))), .val (.int (0 : Int32)), .val (.int tq)] [(.int tq), (.int (0 : Int32))]))
              refine OwnDone.go (A := (T204.setTop (mkF m 101 #[.val (.ref r), .val (.int k1), .val (.int x2), .val (.ref st), .val (.ref nu), .val (.ref en), .val (.ref oa), .val (.int (k1 &&& (3 : Int32))), .val (.int (0 : Int32)), .val (.int tq)] []))) (fun tQ kQ => XS.icmpYes P204.here hx rfl (pc0 := 84) (pc' := 101) rfl (hb hby dst_84) rfl (XT.ii_ge_t hst) (by decide) (by decide) kQ) ?_
              show OwnDone p e below _ (T204.setTop (mkF m 101 #[.val (.ref r), .val (.int k1), .val (.int x2), .val (.ref st), .val (.ref nu), .val (.ref en), .val (.ref oa), .val (.int (k1 &&& (3 : Int32))), .val (.int (0 : Int32)), .val (.int tq)] []))
              refine OwnDone.go (A := (T204.setTop (mkF m 116 #[.val (.ref r), .val (.int k1), .val (.int x2), .val (.ref st), .val (.ref nu), .val (.ref en), .val (.ref oa), .val (.int (k1 &&& (3 : Int32))), .val (.int (0 : Int32)), .val (.int tq)] []))) (fun tQ kQ => ?_) ?_
              · refine XS.goto P204.here hx rfl (pc0 := 101) (pc' := 116) rfl (hb hby dst_101) (by decide) (by decide) ?_
                show Steps p.tables e below (T204.setTop (mkF m 116 #[.val (.ref r), .val (.int k1), .val (.int x2), .val (.ref st), .val (.ref nu), .val (.ref en), .val (.ref oa), .val (.int (k1 &&& (3 : Int32))), .val (.int (0 : Int32)), .val (.int tq)] [])) _
                exact kQ
              show OwnDone p e below _ (T204.setTop (mkF m 116 #[.val (.ref r), .val (.int k1), .val (.int x2), .val (.ref st), .val (.ref nu), .val (.ref en), .val (.ref oa), .val (.int (k1 &&& (3 : Int32))), .val (.int (0 : Int32)), .val (.int tq)] []))
              rcases j4 with j4 | j4
              · obtain ⟨j4, j5, j6⟩ := j4
                show OwnDone p e below _ (T204.setTop (mkF m 116 #[.val (.ref r), .val (.int k1), .val (.int x2), .val (.ref st), .val (.ref nu), .val (.ref en), .val (.ref oa), .val (.int (k1 &&& (3 : Int32))), .val (.int (0 : Int32)), .val (.int tq)] []))
                refine OwnDone.go (A := (T204.setTop (mkF m 117 #[.val (.ref r), .val (.int k1), .val (.int x2), .val (.ref st), .val (.ref nu), .val (.ref en), .val (.ref oa), .val (.int (k1 &&& (3 : Int32))), .val (.int (0 : Int32)), .val (.int tq)] [(.ref r)]))) (fun tQ kQ => ?_) ?_
                · refine XS.aloadN P204.here hx rfl (hb hby dst_116) rfl rfl ?_
                  show Steps p.tables e below (T204.setTop (mkF m 117 #[.val (.ref r), .val (.int k1), .val (.int x2), .val (.ref st), .val (.ref nu), .val (.ref en), .val (.ref oa), .val (.int (k1 &&& (3 : Int32))), .val (.int (0 : Int32)), .val (.int tq)] [(.ref r)])) _
                  exact kQ
                show OwnDone p e below _ (T204.setTop (mkF m 117 #[.val (.ref r), .val (.int k1), .val (.int x2), .val (.ref st), .val (.ref nu), .val (.ref en), .val (.ref oa), .val (.int (k1 &&& (3 : Int32))), .val (.int (0 : Int32)), .val (.int tq)] [(.ref r)]))
                refine own_callV (y := (⟨"com/example/tidx/tidx/index/Run", "first", "()[Ljava/lang/Object;"⟩ : MethodName)) (z := (⟨"com/example/tidx/tidx/index/Run", "first", "()[Ljava/lang/Object;"⟩ : MethodName)) (CC := "com/example/tidx/tidx/index/Run") C P204 Ob.1 (hw _ (List.mem_of_getElem? (i := 34) rfl)) (hw _ (List.mem_of_getElem? (i := 35) rfl)) (hw _ (List.mem_of_getElem? (i := 37) rfl)) (hw _ (List.mem_of_getElem? (i := 37) rfl)) (hw _ (List.mem_of_getElem? (i := 36) rfl)) (hw _ (List.mem_of_getElem? (i := 8) rfl)) (hw _ (List.mem_of_getElem? (i := 38) rfl)) (by decide) (rmfb l Z a0 hw r aR aV aF aT aO aW kV kF kW vd sl ow sz vv ff ww aW b0 f h0 P204.old Ob YaV YaF YaW j1 j4 j2 j3 j5) (as := []) (rest := []) pd_4 rfl rfl (wd := 0) rfl rfl dst_117 all0 (by decide) (by decide) (by decide) (by decide) (fun T205 h205 v205 P205 K205 hQ205 => ?_)
                obtain ⟨rfl, rfl⟩ := hQ205
                show OwnDone p e below _ (T205.setTop (mkF m 120 #[.val (.ref r), .val (.int k1), .val (.int x2), .val (.ref st), .val (.ref nu), .val (.ref en), .val (.ref oa), .val (.int (k1 &&& (3 : Int32))), .val (.int (0 : Int32)), .val (.int tq)] [(.ref b0)]))
                refine OwnDone.go (A := (T205.setTop (mkF m 123 #[.val (.ref r), .val (.int k1), .val (.int x2), .val (.ref st), .val (.ref nu), .val (.ref en), .val (.ref oa), .val (.int (k1 &&& (3 : Int32))), .val (.int (0 : Int32)), .val (.int tq)] [(.ref b0), (.ref b0)]))) (fun tQ kQ => ?_) ?_
                · refine XS.aloadN P205.here hx rfl (hb hby dst_120) rfl rfl ?_
                  show Steps p.tables e below (T205.setTop (mkF m 121 #[.val (.ref r), .val (.int k1), .val (.int x2), .val (.ref st), .val (.ref nu), .val (.ref en), .val (.ref oa), .val (.int (k1 &&& (3 : Int32))), .val (.int (0 : Int32)), .val (.int tq)] [(.ref st), (.ref b0)])) _
                  refine XS.iconst P205.here hx rfl (hb hby dst_121) ?_
                  show Steps p.tables e below (T205.setTop (mkF m 122 #[.val (.ref r), .val (.int k1), .val (.int x2), .val (.ref st), .val (.ref nu), .val (.ref en), .val (.ref oa), .val (.int (k1 &&& (3 : Int32))), .val (.int (0 : Int32)), .val (.int tq)] [(.int (0 : Int32)), (.ref st), (.ref b0)])) _
                  refine own_aaload C P205 Yst rfl (by decide) rfl dst_122 ?_
                  show Steps p.tables e below (T205.setTop (mkF m 123 #[.val (.ref r), .val (.int k1), .val (.int x2), .val (.ref st), .val (.ref nu), .val (.ref en), .val (.ref oa), .val (.int (k1 &&& (3 : Int32))), .val (.int (0 : Int32)), .val (.int tq)] [(.ref b0), (.ref b0)])) _
                  exact kQ
                show OwnDone p e below _ (T205.setTop (mkF m 123 #[.val (.ref r), .val (.int k1), .val (.int x2), .val (.ref st), .val (.ref nu), .val (.ref en), .val (.ref oa), .val (.int (k1 &&& (3 : Int32))), .val (.int (0 : Int32)), .val (.int tq)] [(.ref b0), (.ref b0)]))
                refine OwnDone.go (A := (T205.setTop (mkF m 126 #[.val (.ref r), .val (.int k1), .val (.int x2), .val (.ref st), .val (.ref nu), .val (.ref en), .val (.ref oa), .val (.int (k1 &&& (3 : Int32))), .val (.int (0 : Int32)), .val (.int tq)] []))) (fun tQ kQ => XT.acmpNo P205.here hx rfl (hb hby dst_123) rfl rfl rfl (XT.aa_ne_f rfl) kQ) ?_
                show OwnDone p e below _ (T205.setTop (mkF m 126 #[.val (.ref r), .val (.int k1), .val (.int x2), .val (.ref st), .val (.ref nu), .val (.ref en), .val (.ref oa), .val (.int (k1 &&& (3 : Int32))), .val (.int (0 : Int32)), .val (.int tq)] []))
                refine OwnDone.go (A := (T205.setTop (mkF m 131 #[.val (.ref r), .val (.int k1), .val (.int x2), .val (.ref st), .val (.ref nu), .val (.ref en), .val (.ref oa), .val (.int (k1 &&& (3 : Int32))), .val (.int (0 : Int32)), .val (.int tq)] [(.int (1 : Int32))]))) (fun tQ kQ => ?_) ?_
                · refine XS.iconst P205.here hx rfl (hb hby dst_126) ?_
                  show Steps p.tables e below (T205.setTop (mkF m 127 #[.val (.ref r), .val (.int k1), .val (.int x2), .val (.ref st), .val (.ref nu), .val (.ref en), .val (.ref oa), .val (.int (k1 &&& (3 : Int32))), .val (.int (0 : Int32)), .val (.int tq)] [(.int (1 : Int32))])) _
                  refine XS.goto P205.here hx rfl (pc0 := 127) (pc' := 131) rfl (hb hby dst_127) (by decide) (by decide) ?_
                  show Steps p.tables e below (T205.setTop (mkF m 131 #[.val (.ref r), .val (.int k1), .val (.int x2), .val (.ref st), .val (.ref nu), .val (.ref en), .val (.ref oa), .val (.int (k1 &&& (3 : Int32))), .val (.int (0 : Int32)), .val (.int tq)] [(.int (1 : Int32))])) _
                  exact kQ
                show OwnDone p e below _ (T205.setTop (mkF m 131 #[.val (.ref r), .val (.int k1), .val (.int x2), .val (.ref st), .val (.ref nu), .val (.ref en), .val (.ref oa), .val (.int (k1 &&& (3 : Int32))), .val (.int (0 : Int32)), .val (.int tq)] [(.int (1 : Int32))]))
                refine own_retN C P205 (by simp) (z' := (1 : Int32)) (by decide) dst_131 (by decide) (by decide) ?_
                refine ⟨rfl, vd, sl, ow, sz, rr, vv, ff, tt, oo, ww, (.ref b0), s1, Ob, YaR, YaV, YaF, YaT, YaO, YaW, Yst, Yen, ⟨lR, lV, lF, lT, lO, lW⟩, ?_, ?_, ?_, ?_⟩
                · exact ⟨bs.1, by have := bs.2; omega⟩
                · exact ⟨bo.1, by have := bo.2; omega⟩
                · exact I1.imp id fun ⟨q1, q2, q3, q4, q5⟩ => ⟨q1, q2, q3, q4, q5⟩
                · exact Or.inr ⟨j1, b0, f, rfl, j2, j3, Or.inl ⟨j4, j5, j6⟩⟩
              · obtain ⟨j4, j5⟩ := j4
                show OwnDone p e below _ (T204.setTop (mkF m 116 #[.val (.ref r), .val (.int k1), .val (.int x2), .val (.ref st), .val (.ref nu), .val (.ref en), .val (.ref oa), .val (.int (k1 &&& (3 : Int32))), .val (.int (0 : Int32)), .val (.int tq)] []))
                refine OwnDone.go (A := (T204.setTop (mkF m 117 #[.val (.ref r), .val (.int k1), .val (.int x2), .val (.ref st), .val (.ref nu), .val (.ref en), .val (.ref oa), .val (.int (k1 &&& (3 : Int32))), .val (.int (0 : Int32)), .val (.int tq)] [(.ref r)]))) (fun tQ kQ => ?_) ?_
                · refine XS.aloadN P204.here hx rfl (hb hby dst_116) rfl rfl ?_
                  show Steps p.tables e below (T204.setTop (mkF m 117 #[.val (.ref r), .val (.int k1), .val (.int x2), .val (.ref st), .val (.ref nu), .val (.ref en), .val (.ref oa), .val (.int (k1 &&& (3 : Int32))), .val (.int (0 : Int32)), .val (.int tq)] [(.ref r)])) _
                  exact kQ
                show OwnDone p e below _ (T204.setTop (mkF m 117 #[.val (.ref r), .val (.int k1), .val (.int x2), .val (.ref st), .val (.ref nu), .val (.ref en), .val (.ref oa), .val (.int (k1 &&& (3 : Int32))), .val (.int (0 : Int32)), .val (.int tq)] [(.ref r)]))
                refine own_callV (y := (⟨"com/example/tidx/tidx/index/Run", "first", "()[Ljava/lang/Object;"⟩ : MethodName)) (z := (⟨"com/example/tidx/tidx/index/Run", "first", "()[Ljava/lang/Object;"⟩ : MethodName)) (CC := "com/example/tidx/tidx/index/Run") C P204 Ob.1 (hw _ (List.mem_of_getElem? (i := 34) rfl)) (hw _ (List.mem_of_getElem? (i := 35) rfl)) (hw _ (List.mem_of_getElem? (i := 37) rfl)) (hw _ (List.mem_of_getElem? (i := 37) rfl)) (hw _ (List.mem_of_getElem? (i := 36) rfl)) (hw _ (List.mem_of_getElem? (i := 8) rfl)) (hw _ (List.mem_of_getElem? (i := 38) rfl)) (by decide) (rmfb l Z a0 hw r aR aV aF aT aO aW kV kF kE vd sl ow sz vv ff [(.ref e0), (.ref e1), (.ref e2), (.ref e3)] en b0 f h0 P204.old Ob YaV YaF Yen j1 j4 j2 j3 j5) (as := []) (rest := []) pd_4 rfl rfl (wd := 0) rfl rfl dst_117 all0 (by decide) (by decide) (by decide) (by decide) (fun T206 h206 v206 P206 K206 hQ206 => ?_)
                obtain ⟨rfl, rfl⟩ := hQ206
                show OwnDone p e below _ (T206.setTop (mkF m 120 #[.val (.ref r), .val (.int k1), .val (.int x2), .val (.ref st), .val (.ref nu), .val (.ref en), .val (.ref oa), .val (.int (k1 &&& (3 : Int32))), .val (.int (0 : Int32)), .val (.int tq)] [(.ref b0)]))
                refine OwnDone.go (A := (T206.setTop (mkF m 123 #[.val (.ref r), .val (.int k1), .val (.int x2), .val (.ref st), .val (.ref nu), .val (.ref en), .val (.ref oa), .val (.int (k1 &&& (3 : Int32))), .val (.int (0 : Int32)), .val (.int tq)] [(.ref b0), (.ref b0)]))) (fun tQ kQ => ?_) ?_
                · refine XS.aloadN P206.here hx rfl (hb hby dst_120) rfl rfl ?_
                  show Steps p.tables e below (T206.setTop (mkF m 121 #[.val (.ref r), .val (.int k1), .val (.int x2), .val (.ref st), .val (.ref nu), .val (.ref en), .val (.ref oa), .val (.int (k1 &&& (3 : Int32))), .val (.int (0 : Int32)), .val (.int tq)] [(.ref st), (.ref b0)])) _
                  refine XS.iconst P206.here hx rfl (hb hby dst_121) ?_
                  show Steps p.tables e below (T206.setTop (mkF m 122 #[.val (.ref r), .val (.int k1), .val (.int x2), .val (.ref st), .val (.ref nu), .val (.ref en), .val (.ref oa), .val (.int (k1 &&& (3 : Int32))), .val (.int (0 : Int32)), .val (.int tq)] [(.int (0 : Int32)), (.ref st), (.ref b0)])) _
                  refine own_aaload C P206 Yst rfl (by decide) rfl dst_122 ?_
                  show Steps p.tables e below (T206.setTop (mkF m 123 #[.val (.ref r), .val (.int k1), .val (.int x2), .val (.ref st), .val (.ref nu), .val (.ref en), .val (.ref oa), .val (.int (k1 &&& (3 : Int32))), .val (.int (0 : Int32)), .val (.int tq)] [(.ref b0), (.ref b0)])) _
                  exact kQ
                show OwnDone p e below _ (T206.setTop (mkF m 123 #[.val (.ref r), .val (.int k1), .val (.int x2), .val (.ref st), .val (.ref nu), .val (.ref en), .val (.ref oa), .val (.int (k1 &&& (3 : Int32))), .val (.int (0 : Int32)), .val (.int tq)] [(.ref b0), (.ref b0)]))
                refine OwnDone.go (A := (T206.setTop (mkF m 126 #[.val (.ref r), .val (.int k1), .val (.int x2), .val (.ref st), .val (.ref nu), .val (.ref en), .val (.ref oa), .val (.int (k1 &&& (3 : Int32))), .val (.int (0 : Int32)), .val (.int tq)] []))) (fun tQ kQ => XT.acmpNo P206.here hx rfl (hb hby dst_123) rfl rfl rfl (XT.aa_ne_f rfl) kQ) ?_
                show OwnDone p e below _ (T206.setTop (mkF m 126 #[.val (.ref r), .val (.int k1), .val (.int x2), .val (.ref st), .val (.ref nu), .val (.ref en), .val (.ref oa), .val (.int (k1 &&& (3 : Int32))), .val (.int (0 : Int32)), .val (.int tq)] []))
                refine OwnDone.go (A := (T206.setTop (mkF m 131 #[.val (.ref r), .val (.int k1), .val (.int x2), .val (.ref st), .val (.ref nu), .val (.ref en), .val (.ref oa), .val (.int (k1 &&& (3 : Int32))), .val (.int (0 : Int32)), .val (.int tq)] [(.int (1 : Int32))]))) (fun tQ kQ => ?_) ?_
                · refine XS.iconst P206.here hx rfl (hb hby dst_126) ?_
                  show Steps p.tables e below (T206.setTop (mkF m 127 #[.val (.ref r), .val (.int k1), .val (.int x2), .val (.ref st), .val (.ref nu), .val (.ref en), .val (.ref oa), .val (.int (k1 &&& (3 : Int32))), .val (.int (0 : Int32)), .val (.int tq)] [(.int (1 : Int32))])) _
                  refine XS.goto P206.here hx rfl (pc0 := 127) (pc' := 131) rfl (hb hby dst_127) (by decide) (by decide) ?_
                  show Steps p.tables e below (T206.setTop (mkF m 131 #[.val (.ref r), .val (.int k1), .val (.int x2), .val (.ref st), .val (.ref nu), .val (.ref en), .val (.ref oa), .val (.int (k1 &&& (3 : Int32))), .val (.int (0 : Int32)), .val (.int tq)] [(.int (1 : Int32))])) _
                  exact kQ
                show OwnDone p e below _ (T206.setTop (mkF m 131 #[.val (.ref r), .val (.int k1), .val (.int x2), .val (.ref st), .val (.ref nu), .val (.ref en), .val (.ref oa), .val (.int (k1 &&& (3 : Int32))), .val (.int (0 : Int32)), .val (.int tq)] [(.int (1 : Int32))]))
                refine own_retN C P206 (by simp) (z' := (1 : Int32)) (by decide) dst_131 (by decide) (by decide) ?_
                refine ⟨rfl, vd, sl, ow, sz, rr, vv, ff, tt, oo, ww, (.ref b0), s1, Ob, YaR, YaV, YaF, YaT, YaO, YaW, Yst, Yen, ⟨lR, lV, lF, lT, lO, lW⟩, ?_, ?_, ?_, ?_⟩
                · exact ⟨bs.1, by have := bs.2; omega⟩
                · exact ⟨bo.1, by have := bo.2; omega⟩
                · exact I1.imp id fun ⟨q1, q2, q3, q4, q5⟩ => ⟨q1, q2, q3, q4, q5⟩
                · exact Or.inr ⟨j1, b0, f, rfl, j2, j3, Or.inr ⟨j4, j5⟩⟩
        · rw [hs4]
          show OwnDone p e below _ (T.setTop (mkF m 54 #[.val (.ref r), .val (.int k1), .val (.int x2), .val (.ref st), .val (.ref nu), .val (.ref en), .val (.ref oa), .val (.int (k1 &&& (3 : Int32))), .unset, .unset] [(.int (1 : Int32))]))
          refine OwnDone.go (A := (T.setTop (mkF m 63 #[.val (.ref r), .val (.int k1), .val (.int x2), .val (.ref st), .val (.ref nu), .val (.ref en), .val (.ref oa), .val (.int (k1 &&& (3 : Int32))), .val (.int (1 : Int32)), .unset] [(.int (4 : Int32)), (.int ((XT.ushr k1 (4 : Int32)) &&& (7 : Int32)))]))) (fun tQ kQ => ?_) ?_
          · refine XS.istore P.here hx rfl (hb hby dst_54) rfl (l' := #[.val (.ref r), .val (.int k1), .val (.int x2), .val (.ref st), .val (.ref nu), .val (.ref en), .val (.ref oa), .val (.int (k1 &&& (3 : Int32))), .val (.int (1 : Int32)), .unset]) rfl ?_
            show Steps p.tables e below (T.setTop (mkF m 56 #[.val (.ref r), .val (.int k1), .val (.int x2), .val (.ref st), .val (.ref nu), .val (.ref en), .val (.ref oa), .val (.int (k1 &&& (3 : Int32))), .val (.int (1 : Int32)), .unset] [])) _
            refine XS.iloadN P.here hx rfl (hb hby dst_56) rfl ?_
            show Steps p.tables e below (T.setTop (mkF m 57 #[.val (.ref r), .val (.int k1), .val (.int x2), .val (.ref st), .val (.ref nu), .val (.ref en), .val (.ref oa), .val (.int (k1 &&& (3 : Int32))), .val (.int (1 : Int32)), .unset] [(.int k1)])) _
            refine XS.iconst P.here hx rfl (hb hby dst_57) ?_
            show Steps p.tables e below (T.setTop (mkF m 58 #[.val (.ref r), .val (.int k1), .val (.int x2), .val (.ref st), .val (.ref nu), .val (.ref en), .val (.ref oa), .val (.int (k1 &&& (3 : Int32))), .val (.int (1 : Int32)), .unset] [(.int (4 : Int32)), (.int k1)])) _
            refine XT.iushr P.here hx rfl (hb hby dst_58) rfl ?_
            show Steps p.tables e below (T.setTop (mkF m 59 #[.val (.ref r), .val (.int k1), .val (.int x2), .val (.ref st), .val (.ref nu), .val (.ref en), .val (.ref oa), .val (.int (k1 &&& (3 : Int32))), .val (.int (1 : Int32)), .unset] [(.int (XT.ushr k1 (4 : Int32)))])) _
            refine XS.bipush P.here hx rfl (hb hby dst_59) ?_
            show Steps p.tables e below (T.setTop (mkF m 61 #[.val (.ref r), .val (.int k1), .val (.int x2), .val (.ref st), .val (.ref nu), .val (.ref en), .val (.ref oa), .val (.int (k1 &&& (3 : Int32))), .val (.int (1 : Int32)), .unset] [(.int (7 : Int32)), (.int (XT.ushr k1 (4 : Int32)))])) _
            refine XS.iand P.here hx rfl (hb hby dst_61) rfl ?_
            show Steps p.tables e below (T.setTop (mkF m 62 #[.val (.ref r), .val (.int k1), .val (.int x2), .val (.ref st), .val (.ref nu), .val (.ref en), .val (.ref oa), .val (.int (k1 &&& (3 : Int32))), .val (.int (1 : Int32)), .unset] [(.int ((XT.ushr k1 (4 : Int32)) &&& (7 : Int32)))])) _
            refine XS.iconst P.here hx rfl (hb hby dst_62) ?_
            show Steps p.tables e below (T.setTop (mkF m 63 #[.val (.ref r), .val (.int k1), .val (.int x2), .val (.ref st), .val (.ref nu), .val (.ref en), .val (.ref oa), .val (.int (k1 &&& (3 : Int32))), .val (.int (1 : Int32)), .unset] [(.int (4 : Int32)), (.int ((XT.ushr k1 (4 : Int32)) &&& (7 : Int32)))])) _
            exact kQ
          show OwnDone p e below _ (T.setTop (mkF m 63 #[.val (.ref r), .val (.int k1), .val (.int x2), .val (.ref st), .val (.ref nu), .val (.ref en), .val (.ref oa), .val (.int (k1 &&& (3 : Int32))), .val (.int (1 : Int32)), .unset] [(.int (4 : Int32)), (.int ((XT.ushr k1 (4 : Int32)) &&& (7 : Int32)))]))
          refine own_callS (y := (⟨"java/lang/Math", "min", "(II)I"⟩ : MethodName)) C P (hw _ (List.mem_of_getElem? (i := 77) rfl)) (hw _ (List.mem_of_getElem? (i := 78) rfl)) (hw _ (List.mem_of_getElem? (i := 79) rfl)) (hw _ (List.mem_of_getElem? (i := 80) rfl)) (by decide) (rmmin l Z a0 hw ((XT.ushr k1 (4 : Int32)) &&& (7 : Int32)) (4 : Int32) h0 P.old) (as := [(.int ((XT.ushr k1 (4 : Int32)) &&& (7 : Int32))), (.int (4 : Int32))]) (rest := []) pd_5 rfl rfl (wd := 0) rfl rfl dst_63 all0 (by decide) (by decide) (by decide) (by decide) (fun T207 h207 v207 P207 K207 hQ207 => ?_)
          obtain ⟨⟨tq, rfl⟩, rfl⟩ := hQ207
          show OwnDone p e below _ (T207.setTop (mkF m 66 #[.val (.ref r), .val (.int k1), .val (.int x2), .val (.ref st), .val (.ref nu), .val (.ref en), .val (.ref oa), .val (.int (k1 &&& (3 : Int32))), .val (.int (1 : Int32)), .unset] [(.int tq)]))
          refine OwnDone.go (A := (T207.setTop (mkF m 77 #[.val (.ref r), .val (.int k1), .val (.int x2), .val (.ref st), .val (.ref nu), .val (.ref en), .val (.ref oa), .val (.int (k1 &&& (3 : Int32))), .val (.int (1 : Int32)), .val (.int tq)] [(.int tq), (.int (1 : Int32)), (.ref en), (.ref nu), (.ref r)]))) (fun tQ kQ => ?_) ?_
          · refine XS.istore P207.here hx rfl (hb hby dst_66) rfl (l' := #[.val (.ref r), .val (.int k1), .val (.int x2), .val (.ref st), .val (.ref nu), .val (.ref en), .val (.ref oa), .val (.int (k1 &&& (3 : Int32))), .val (.int (1 : Int32)), .val (.int tq)]) rfl ?_
            show Steps p.tables e below (T207.setTop (mkF m 68 #[.val (.ref r), .val (.int k1), .val (.int x2), .val (.ref st), .val (.ref nu), .val (.ref en), .val (.ref oa), .val (.int (k1 &&& (3 : Int32))), .val (.int (1 : Int32)), .val (.int tq)] [])) _
            refine XS.aloadN P207.here hx rfl (hb hby dst_68) rfl rfl ?_
            show Steps p.tables e below (T207.setTop (mkF m 69 #[.val (.ref r), .val (.int k1), .val (.int x2), .val (.ref st), .val (.ref nu), .val (.ref en), .val (.ref oa), .val (.int (k1 &&& (3 : Int32))), .val (.int (1 : Int32)), .val (.int tq)] [(.ref r)])) _
            refine XS.aload P207.here hx rfl (hb hby dst_69) rfl rfl ?_
            show Steps p.tables e below (T207.setTop (mkF m 71 #[.val (.ref r), .val (.int k1), .val (.int x2), .val (.ref st), .val (.ref nu), .val (.ref en), .val (.ref oa), .val (.int (k1 &&& (3 : Int32))), .val (.int (1 : Int32)), .val (.int tq)] [(.ref nu), (.ref r)])) _
            refine XS.aload P207.here hx rfl (hb hby dst_71) rfl rfl ?_
            show Steps p.tables e below (T207.setTop (mkF m 73 #[.val (.ref r), .val (.int k1), .val (.int x2), .val (.ref st), .val (.ref nu), .val (.ref en), .val (.ref oa), .val (.int (k1 &&& (3 : Int32))), .val (.int (1 : Int32)), .val (.int tq)] [(.ref en), (.ref nu), (.ref r)])) _
            refine XS.iload P207.here hx rfl (hb hby dst_73) rfl ?_
            show Steps p.tables e below (T207.setTop (mkF m 75 #[.val (.ref r), .val (.int k1), .val (.int x2), .val (.ref st), .val (.ref nu), .val (.ref en), .val (.ref oa), .val (.int (k1 &&& (3 : Int32))), .val (.int (1 : Int32)), .val (.int tq)] [(.int (1 : Int32)), (.ref en), (.ref nu), (.ref r)])) _
            refine XS.iload P207.here hx rfl (hb hby dst_75) rfl ?_
            show Steps p.tables e below (T207.setTop (mkF m 77 #[.val (.ref r), .val (.int k1), .val (.int x2), .val (.ref st), .val (.ref nu), .val (.ref en), .val (.ref oa), .val (.int (k1 &&& (3 : Int32))), .val (.int (1 : Int32)), .val (.int tq)] [(.int tq), (.int (1 : Int32)), (.ref en), (.ref nu), (.ref r)])) _
            exact kQ
          show OwnDone p e below _ (T207.setTop (mkF m 77 #[.val (.ref r), .val (.int k1), .val (.int x2), .val (.ref st), .val (.ref nu), .val (.ref en), .val (.ref oa), .val (.int (k1 &&& (3 : Int32))), .val (.int (1 : Int32)), .val (.int tq)] [(.int tq), (.int (1 : Int32)), (.ref en), (.ref nu), (.ref r)]))
          by_cases hst : (1 : Int32) < tq
          · rcases I0 with I0 | I0
            · obtain ⟨j1, rfl⟩ := I0
              show OwnDone p e below _ (T207.setTop (mkF m 77 #[.val (.ref r), .val (.int k1), .val (.int x2), .val (.ref st), .val (.ref nu), .val (.ref en), .val (.ref oa), .val (.int (k1 &&& (3 : Int32))), .val (.int (1 : Int32)), .val (.int tq)] [(.int tq), (.int (1 : Int32)), (.ref en), (.ref nu), (.ref r)]))
              refine own_callV (y := (⟨"com/example/tidx/tidx/index/Run", "add", "([I[[Ljava/lang/Object;II)V"⟩ : MethodName)) (z := (⟨"com/example/tidx/tidx/index/Run", "add", "([I[[Ljava/lang/Object;II)V"⟩ : MethodName)) (CC := "com/example/tidx/tidx/index/Run") C P207 Ob.1 (hw _ (List.mem_of_getElem? (i := 81) rfl)) (hw _ (List.mem_of_getElem? (i := 82) rfl)) (hw _ (List.mem_of_getElem? (i := 84) rfl)) (hw _ (List.mem_of_getElem? (i := 84) rfl)) (hw _ (List.mem_of_getElem? (i := 83) rfl)) (hw _ (List.mem_of_getElem? (i := 8) rfl)) (hw _ (List.mem_of_getElem? (i := 85) rfl)) (by decide) (rmal l Z a0 hw r nu en (1 : Int32) tq aR aV aF aT aO aW kR kV kF kT vd sl ow sz rr vv ff tt h0 P207.old g_r g_aR g_aV g_aF g_aT hst Ob YaR lR YaV lV YaF lF YaT lT (by omega) (by omega) (by omega) (by omega) s1_ s2_ In Ie VR VV) (as := [(.ref nu), (.ref en), (.int (1 : Int32)), (.int tq)]) (rest := []) pd_0 rfl rfl (wd := 0) rfl rfl dst_77 (allS (Or.inl (List.mem_of_getElem? (i := 1) rfl)) (allS (Or.inl (List.mem_of_getElem? (i := 2) rfl)) (allS (Or.inl (List.mem_of_getElem? (i := 3) rfl)) (allS (Or.inl (List.mem_of_getElem? (i := 4) rfl)) (allS (Or.inl (List.mem_of_getElem? (i := 5) rfl)) all0))))) (by decide) (by decide) (by decide) (by decide) (fun T208 h208 v208 P208 K208 hQ208 => ?_)
              obtain ⟨rfl, Ob208, YaR208, YaV208, YaF208, YaT208⟩ := hQ208
              have I209_nu := own_insK In K208
              have I210_en := own_insK Ie K208
              have I211_oa := own_insK Ia K208
              have I212_oa := own_insK Ib K208
              have I213_e0 := own_insK Ie0 K208
              have I214_e1 := own_insK Ie1 K208
              have I215_e2 := own_insK Ie2 K208
              have I216_e3 := own_insK Ie3 K208
              have Y217_aO := YaO.keep K208 (ninS (own_neL (by omega)) (ninS (own_neL (by omega)) (ninS (own_neL (by omega)) (ninS (own_neL (by omega)) (ninS (own_neL (by omega)) nin0)))))
              have Y218_aW := YaW.keep K208 (ninS (own_neL (by omega)) (ninS (own_neL (by omega)) (ninS (own_neL (by omega)) (ninS (own_neL (by omega)) (ninS (own_neL (by omega)) nin0)))))
              have Y219_st := Yst.keep K208 (ninS (own_neL (by omega)) (ninS (own_neL (by omega)) (ninS (own_neL (by omega)) (ninS (own_neL (by omega)) (ninS (own_neL (by omega)) nin0)))))
              have Y220_en := Yen.keep K208 (ninS (own_neL (by omega)) (ninS (own_neL (by omega)) (ninS (own_neL (by omega)) (ninS (own_neL (by omega)) (ninS (own_neL (by omega)) nin0)))))
              have laR208 : (rr.set (sl).toNatClampNeg (.ref nu)).length = 4 := by rw [List.length_set]; exact lR
              have laV208 : (vv.set (sl).toNatClampNeg (.ref en)).length = 4 := by rw [List.length_set]; exact lV
              have laF208 : (ff.set (sl).toNatClampNeg (.int (1 : Int32))).length = 4 := by rw [List.length_set]; exact lF
              have laT208 : (tt.set (sl).toNatClampNeg (.int tq)).length = 4 := by rw [List.length_set]; exact lT
              show OwnDone p e below _ (T208.setTop (mkF m 80 #[.val (.ref r), .val (.int k1), .val (.int x2), .val (.ref st), .val (.ref nu), .val (.ref en), .val (.ref oa), .val (.int (k1 &&& (3 : Int32))), .val (.int (1 : Int32)), .val (.int tq)] []))
              refine OwnDone.go (A := (T208.setTop (mkF m 84 #[.val (.ref r), .val (.int k1), .val (.int x2), .val (.ref st), .val (.ref nu), .val (.ref en), .val (.ref oa), .val (.int (k1 &&& (3 : Int32))), .val (.int (1 : Int32)), .val (.int tq)] [(.int tq), (.int (1 : Int32))]))) (fun tQ kQ => ?_) ?_
              · refine XS.iload P208.here hx rfl (hb hby dst_80) rfl ?_
                show Steps p.tables e below (T208.setTop (mkF m 82 #[.val (.ref r), .val (.int k1), .val (.int x2), .val (.ref st), .val (.ref nu), .val (.ref en), .val (.ref oa), .val (.int (k1 &&& (3 : Int32))), .val (.int (1 : Int32)), .val (.int tq)] [(.int (1 : Int32))])) _
                refine XS.iload P208.here hx rfl (hb hby dst_82) rfl ?_
                show Steps p.tables e below (T208.setTop (mkF m 84 #[.val (.ref r), .val (.int k1), .val (.int x2), .val (.ref st), .val (.ref nu), .val (.ref en), .val (.ref oa), .val (.int (k1 &&& (3 : Int32))), .val (.int (1 : Int32)), .val (.int tq)] [(.int tq), (.int (1 : Int32))])) _
                exact kQ
              show OwnDone p e below _ (T208.setTop (mkF m 84 #[.val (.ref r), .val (.int k1), .val (.int x2), .val (.ref st), .val (.ref nu), .val (.ref en), .val (.ref oa), .val (.int (k1 &&& (3 : Int32))), .val (.int (1 : Int32)), .val (.int tq)] [(.int tq), (.int (1 : Int32))]))
              refine OwnDone.go (A := (T208.setTop (mkF m 87 #[.val (.ref r), .val (.int k1), .val (.int x2), .val (.ref st), .val (.ref nu), .val (.ref en), .val (.ref oa), .val (.int (k1 &&& (3 : Int32))), .val (.int (1 : Int32)), .val (.int tq)] []))) (fun tQ kQ => XS.icmpNo P208.here hx rfl (hb hby dst_84) rfl (XT.ii_ge_f hst) kQ) ?_
              show OwnDone p e below _ (T208.setTop (mkF m 87 #[.val (.ref r), .val (.int k1), .val (.int x2), .val (.ref st), .val (.ref nu), .val (.ref en), .val (.ref oa), .val (.int (k1 &&& (3 : Int32))), .val (.int (1 : Int32)), .val (.int tq)] []))
              refine OwnDone.go (A := (T208.setTop (mkF m 90 #[.val (.ref r), .val (.int k1), .val (.int x2), .val (.ref st), .val (.ref nu), .val (.ref en), .val (.ref oa), .val (.int (k1 &&& (3 : Int32))), .val (.int (1 : Int32)), .val (.int tq)] [.null]))) (fun tQ kQ => ?_) ?_
              · refine XS.aloadN P208.here hx rfl (hb hby dst_87) rfl rfl ?_
                show Steps p.tables e below (T208.setTop (mkF m 88 #[.val (.ref r), .val (.int k1), .val (.int x2), .val (.ref st), .val (.ref nu), .val (.ref en), .val (.ref oa), .val (.int (k1 &&& (3 : Int32))), .val (.int (1 : Int32)), .val (.int tq)] [(.ref st)])) _
                refine XS.iconst P208.here hx rfl (hb hby dst_88) ?_
                show Steps p.tables e below (T208.setTop (mkF m 89 #[.val (.ref r), .val (.int k1), .val (.int x2), .val (.ref st), .val (.ref nu), .val (.ref en), .val (.ref oa), .val (.int (k1 &&& (3 : Int32))), .val (.int (1 : Int32)), .val (.int tq)] [(.int (0 : Int32)), (.ref st)])) _
                refine own_aaload C P208 Y219_st rfl (by decide) rfl dst_89 ?_
                show Steps p.tables e below (T208.setTop (mkF m 90 #[.val (.ref r), .val (.int k1), .val (.int x2), .val (.ref st), .val (.ref nu), .val (.ref en), .val (.ref oa), .val (.int (k1 &&& (3 : Int32))), .val (.int (1 : Int32)), .val (.int tq)] [.null])) _
                exact kQ
              show OwnDone p e below _ (T208.setTop (mkF m 90 #[.val (.ref r), .val (.int k1), .val (.int x2), .val (.ref st), .val (.ref nu), .val (.ref en), .val (.ref oa), .val (.int (k1 &&& (3 : Int32))), .val (.int (1 : Int32)), .val (.int tq)] [.null]))
              refine OwnDone.go (A := (T208.setTop (mkF m 93 #[.val (.ref r), .val (.int k1), .val (.int x2), .val (.ref st), .val (.ref nu), .val (.ref en), .val (.ref oa), .val (.int (k1 &&& (3 : Int32))), .val (.int (1 : Int32)), .val (.int tq)] []))) (fun tQ kQ => XT.ifnonnullNo P208.here hx rfl (hb hby dst_90) rfl kQ) ?_
              show OwnDone p e below _ (T208.setTop (mkF m 93 #[.val (.ref r), .val (.int k1), .val (.int x2), .val (.ref st), .val (.ref nu), .val (.ref en), .val (.ref oa), .val (.int (k1 &&& (3 : Int32))), .val (.int (1 : Int32)), .val (.int tq)] []))
              refine OwnDone.go (A := (T208.setTop (mkF m 100 #[.val (.ref r), .val (.int k1), .val (.int x2), .val (.ref st), .val (.ref nu), .val (.ref en), .val (.ref oa), .val (.int (k1 &&& (3 : Int32))), .val (.int (1 : Int32)), .val (.int tq)] [(.ref e1), (.int (0 : Int32)), (.ref st)]))) (fun tQ kQ => ?_) ?_
              · refine XS.aloadN P208.here hx rfl (hb hby dst_93) rfl rfl ?_
                show Steps p.tables e below (T208.setTop (mkF m 94 #[.val (.ref r), .val (.int k1), .val (.int x2), .val (.ref st), .val (.ref nu), .val (.ref en), .val (.ref oa), .val (.int (k1 &&& (3 : Int32))), .val (.int (1 : Int32)), .val (.int tq)] [(.ref st)])) _
                refine XS.iconst P208.here hx rfl (hb hby dst_94) ?_
                show Steps p.tables e below (T208.setTop (mkF m 95 #[.val (.ref r), .val (.int k1), .val (.int x2), .val (.ref st), .val (.ref nu), .val (.ref en), .val (.ref oa), .val (.int (k1 &&& (3 : Int32))), .val (.int (1 : Int32)), .val (.int tq)] [(.int (0 : Int32)), (.ref st)])) _
                refine XS.aload P208.here hx rfl (hb hby dst_95) rfl rfl ?_
                show Steps p.tables e below (T208.setTop (mkF m 97 #[.val (.ref r), .val (.int k1), .val (.int x2), .val (.ref st), .val (.ref nu), .val (.ref en), .val (.ref oa), .val (.int (k1 &&& (3 : Int32))), .val (.int (1 : Int32)), .val (.int tq)] [(.ref en), (.int (0 : Int32)), (.ref st)])) _
                refine XS.iload P208.here hx rfl (hb hby dst_97) rfl ?_
                show Steps p.tables e below (T208.setTop (mkF m 99 #[.val (.ref r), .val (.int k1), .val (.int x2), .val (.ref st), .val (.ref nu), .val (.ref en), .val (.ref oa), .val (.int (k1 &&& (3 : Int32))), .val (.int (1 : Int32)), .val (.int tq)] [(.int (1 : Int32)), (.ref en), (.int (0 : Int32)), (.ref st)])) _
                refine own_aaload C P208 Y220_en rfl (by decide) rfl dst_99 ?_
                show Steps p.tables e below (T208.setTop (mkF m 100 #[.val (.ref r), .val (.int k1), .val (.int x2), .val (.ref st), .val (.ref nu), .val (.ref en), .val (.ref oa), .val (.int (k1 &&& (3 : Int32))), .val (.int (1 : Int32)), .val (.int tq)] [(.ref e1), (.int (0 : Int32)), (.ref st)])) _
                exact kQ
              show OwnDone p e below _ (T208.setTop (mkF m 100 #[.val (.ref r), .val (.int k1), .val (.int x2), .val (.ref st), .val (.ref nu), .val (.ref en), .val (.ref oa), .val (.int (k1 &&& (3 : Int32))), .val (.int (1 : Int32)), .val (.int tq)] [(.ref e1), (.int (0 : Int32)), (.ref st)]))
              refine own_aastore C P208 Y219_st rfl (by decide) (show ((0 : Int32) : Int32).toNatClampNeg < 2 from by decide) (Y219_st.sto VS I214_e1) (Or.inl (List.mem_of_getElem? (i := 0) rfl)) dst_100 (vs' := [(.ref e1), s1]) rfl (fun T221 h221 P221 K221 Y221 => ?_)
              have I222_nu := own_insK I209_nu K221
              have I223_en := own_insK I210_en K221
              have I224_oa := own_insK I211_oa K221
              have I225_oa := own_insK I212_oa K221
              have I226_e0 := own_insK I213_e0 K221
              have I227_e1 := own_insK I214_e1 K221
              have I228_e2 := own_insK I215_e2 K221
              have I229_e3 := own_insK I216_e3 K221
              have O230_r := Ob208.keep K221 (ninS (own_neL (by omega)) nin0)
              have Y231_aR := YaR208.keep K221 (ninS (own_neL (by omega)) nin0)
              have Y232_aV := YaV208.keep K221 (ninS (own_neL (by omega)) nin0)
              have Y233_aF := YaF208.keep K221 (ninS (own_neL (by omega)) nin0)
              have Y234_aT := YaT208.keep K221 (ninS (own_neL (by omega)) nin0)
              have Y235_aO := Y217_aO.keep K221 (ninS (own_neL (by omega)) nin0)
              have Y236_aW := Y218_aW.keep K221 (ninS (own_neL (by omega)) nin0)
              have Y237_en := Y220_en.keep K221 (ninS (own_neL (by omega)) nin0)
              show OwnDone p e below _ (T221.setTop (mkF m 101 #[.val (.ref r), .val (.int k1), .val (.int x2), .val (.ref st), .val (.ref nu), .val (.ref en), .val (.ref oa), .val (.int (k1 &&& (3 : Int32))), .val (.int (1 : Int32)), .val (.int tq)] []))
              refine OwnDone.go (A := (T221.setTop (mkF m 116 #[.val (.ref r), .val (.int k1), .val (.int x2), .val (.ref st), .val (.ref nu), .val (.ref en), .val (.ref oa), .val (.int (k1 &&& (3 : Int32))), .val (.int (1 : Int32)), .val (.int tq)] []))) (fun tQ kQ => ?_) ?_
              · refine XS.goto P221.here hx rfl (pc0 := 101) (pc' := 116) rfl (hb hby dst_101) (by decide) (by decide) ?_
                show Steps p.tables e below (T221.setTop (mkF m 116 #[.val (.ref r), .val (.int k1), .val (.int x2), .val (.ref st), .val (.ref nu), .val (.ref en), .val (.ref oa), .val (.int (k1 &&& (3 : Int32))), .val (.int (1 : Int32)), .val (.int tq)] [])) _
                exact kQ
              show OwnDone p e below _ (T221.setTop (mkF m 116 #[.val (.ref r), .val (.int k1), .val (.int x2), .val (.ref st), .val (.ref nu), .val (.ref en), .val (.ref oa), .val (.int (k1 &&& (3 : Int32))), .val (.int (1 : Int32)), .val (.int tq)] []))
              refine OwnDone.go (A := (T221.setTop (mkF m 117 #[.val (.ref r), .val (.int k1), .val (.int x2), .val (.ref st), .val (.ref nu), .val (.ref en), .val (.ref oa), .val (.int (k1 &&& (3 : Int32))), .val (.int (1 : Int32)), .val (.int tq)] [(.ref r)]))) (fun tQ kQ => ?_) ?_
              · refine XS.aloadN P221.here hx rfl (hb hby dst_116) rfl rfl ?_
                show Steps p.tables e below (T221.setTop (mkF m 117 #[.val (.ref r), .val (.int k1), .val (.int x2), .val (.ref st), .val (.ref nu), .val (.ref en), .val (.ref oa), .val (.int (k1 &&& (3 : Int32))), .val (.int (1 : Int32)), .val (.int tq)] [(.ref r)])) _
                exact kQ
              show OwnDone p e below _ (T221.setTop (mkF m 117 #[.val (.ref r), .val (.int k1), .val (.int x2), .val (.ref st), .val (.ref nu), .val (.ref en), .val (.ref oa), .val (.int (k1 &&& (3 : Int32))), .val (.int (1 : Int32)), .val (.int tq)] [(.ref r)]))
              refine own_callV (y := (⟨"com/example/tidx/tidx/index/Run", "first", "()[Ljava/lang/Object;"⟩ : MethodName)) (z := (⟨"com/example/tidx/tidx/index/Run", "first", "()[Ljava/lang/Object;"⟩ : MethodName)) (CC := "com/example/tidx/tidx/index/Run") C P221 O230_r.1 (hw _ (List.mem_of_getElem? (i := 34) rfl)) (hw _ (List.mem_of_getElem? (i := 35) rfl)) (hw _ (List.mem_of_getElem? (i := 37) rfl)) (hw _ (List.mem_of_getElem? (i := 37) rfl)) (hw _ (List.mem_of_getElem? (i := 36) rfl)) (hw _ (List.mem_of_getElem? (i := 8) rfl)) (hw _ (List.mem_of_getElem? (i := 38) rfl)) (by decide) (rmfb l Z a0 hw r aR aV aF aT aO aW kV kF kE vd (sl + (1 : Int32)) ow (sz + (tq - (1 : Int32))) (vv.set (sl).toNatClampNeg (.ref en)) (ff.set (sl).toNatClampNeg (.int (1 : Int32))) [(.ref e0), (.ref e1), (.ref e2), (.ref e3)] en e1 (1 : Int32) h221 P221.old O230_r Y232_aV Y233_aF Y237_en (own_incNe bs (by omega)) (by rw [j1]; exact List.getElem?_set_self (by rw [lV]; decide)) (by rw [j1]; exact List.getElem?_set_self (by rw [lF]; decide)) (by decide) rfl) (as := []) (rest := []) pd_4 rfl rfl (wd := 0) rfl rfl dst_117 all0 (by decide) (by decide) (by decide) (by decide) (fun T238 h238 v238 P238 K238 hQ238 => ?_)
              obtain ⟨rfl, rfl⟩ := hQ238
              show OwnDone p e below _ (T238.setTop (mkF m 120 #[.val (.ref r), .val (.int k1), .val (.int x2), .val (.ref st), .val (.ref nu), .val (.ref en), .val (.ref oa), .val (.int (k1 &&& (3 : Int32))), .val (.int (1 : Int32)), .val (.int tq)] [(.ref e1)]))
              refine OwnDone.go (A := (T238.setTop (mkF m 123 #[.val (.ref r), .val (.int k1), .val (.int x2), .val (.ref st), .val (.ref nu), .val (.ref en), .val (.ref oa), .val (.int (k1 &&& (3 : Int32))), .val (.int (1 : Int32)), .val (.int tq)] [(.ref e1), (.ref e1)]))) (fun tQ kQ => ?_) ?_
              · refine XS.aloadN P238.here hx rfl (hb hby dst_120) rfl rfl ?_
                show Steps p.tables e below (T238.setTop (mkF m 121 #[.val (.ref r), .val (.int k1), .val (.int x2), .val (.ref st), .val (.ref nu), .val (.ref en), .val (.ref oa), .val (.int (k1 &&& (3 : Int32))), .val (.int (1 : Int32)), .val (.int tq)] [(.ref st), (.ref e1)])) _
                refine XS.iconst P238.here hx rfl (hb hby dst_121) ?_
                show Steps p.tables e below (T238.setTop (mkF m 122 #[.val (.ref r), .val (.int k1), .val (.int x2), .val (.ref st), .val (.ref nu), .val (.ref en), .val (.ref oa), .val (.int (k1 &&& (3 : Int32))), .val (.int (1 : Int32)), .val (.int tq)] [(.int (0 : Int32)), (.ref st), (.ref e1)])) _
                refine own_aaload C P238 Y221 rfl (by decide) rfl dst_122 ?_
                show Steps p.tables e below (T238.setTop (mkF m 123 #[.val (.ref r), .val (.int k1), .val (.int x2), .val (.ref st), .val (.ref nu), .val (.ref en), .val (.ref oa), .val (.int (k1 &&& (3 : Int32))), .val (.int (1 : Int32)), .val (.int tq)] [(.ref e1), (.ref e1)])) _
                exact kQ
              show OwnDone p e below _ (T238.setTop (mkF m 123 #[.val (.ref r), .val (.int k1), .val (.int x2), .val (.ref st), .val (.ref nu), .val (.ref en), .val (.ref oa), .val (.int (k1 &&& (3 : Int32))), .val (.int (1 : Int32)), .val (.int tq)] [(.ref e1), (.ref e1)]))
              refine OwnDone.go (A := (T238.setTop (mkF m 126 #[.val (.ref r), .val (.int k1), .val (.int x2), .val (.ref st), .val (.ref nu), .val (.ref en), .val (.ref oa), .val (.int (k1 &&& (3 : Int32))), .val (.int (1 : Int32)), .val (.int tq)] []))) (fun tQ kQ => XT.acmpNo P238.here hx rfl (hb hby dst_123) rfl rfl rfl (XT.aa_ne_f rfl) kQ) ?_
              show OwnDone p e below _ (T238.setTop (mkF m 126 #[.val (.ref r), .val (.int k1), .val (.int x2), .val (.ref st), .val (.ref nu), .val (.ref en), .val (.ref oa), .val (.int (k1 &&& (3 : Int32))), .val (.int (1 : Int32)), .val (.int tq)] []))
              refine OwnDone.go (A := (T238.setTop (mkF m 131 #[.val (.ref r), .val (.int k1), .val (.int x2), .val (.ref st), .val (.ref nu), .val (.ref en), .val (.ref oa), .val (.int (k1 &&& (3 : Int32))), .val (.int (1 : Int32)), .val (.int tq)] [(.int (1 : Int32))]))) (fun tQ kQ => ?_) ?_
              · refine XS.iconst P238.here hx rfl (hb hby dst_126) ?_
                show Steps p.tables e below (T238.setTop (mkF m 127 #[.val (.ref r), .val (.int k1), .val (.int x2), .val (.ref st), .val (.ref nu), .val (.ref en), .val (.ref oa), .val (.int (k1 &&& (3 : Int32))), .val (.int (1 : Int32)), .val (.int tq)] [(.int (1 : Int32))])) _
                refine XS.goto P238.here hx rfl (pc0 := 127) (pc' := 131) rfl (hb hby dst_127) (by decide) (by decide) ?_
                show Steps p.tables e below (T238.setTop (mkF m 131 #[.val (.ref r), .val (.int k1), .val (.int x2), .val (.ref st), .val (.ref nu), .val (.ref en), .val (.ref oa), .val (.int (k1 &&& (3 : Int32))), .val (.int (1 : Int32)), .val (.int tq)] [(.int (1 : Int32))])) _
                exact kQ
              show OwnDone p e below _ (T238.setTop (mkF m 131 #[.val (.ref r), .val (.int k1), .val (.int x2), .val (.ref st), .val (.ref nu), .val (.ref en), .val (.ref oa), .val (.int (k1 &&& (3 : Int32))), .val (.int (1 : Int32)), .val (.int tq)] [(.int (1 : Int32))]))
              refine own_retN C P238 (by simp) (z' := (1 : Int32)) (by decide) dst_131 (by decide) (by decide) ?_
              refine ⟨rfl, vd, (sl + (1 : Int32)), ow, (sz + (tq - (1 : Int32))), (rr.set (sl).toNatClampNeg (.ref nu)), (vv.set (sl).toNatClampNeg (.ref en)), (ff.set (sl).toNatClampNeg (.int (1 : Int32))), (tt.set (sl).toNatClampNeg (.int tq)), oo, ww, (.ref e1), s1, O230_r, Y231_aR, Y232_aV, Y233_aF, Y234_aT, Y235_aO, Y236_aW, Y221, Y237_en, ⟨laR208, laV208, laF208, laT208, lO, lW⟩, ?_, ?_, ?_, ?_⟩
              · exact own_inc bs (by omega)
              · exact ⟨bo.1, by have := bo.2; omega⟩
              · exact I1.imp id fun ⟨q1, q2, q3, q4, q5⟩ => ⟨q1, q2, q3, q4, (own_insK (own_insK q5 K208) K221)⟩
              · exact Or.inr ⟨own_incNe bs (by omega), e1, (1 : Int32), rfl, (by rw [j1]; exact List.getElem?_set_self (by rw [lF]; decide)), by decide, Or.inr ⟨(by rw [j1]; exact List.getElem?_set_self (by rw [lV]; decide)), rfl⟩⟩
            · obtain ⟨j1, b0, f, rfl, j2, j3, j4⟩ := I0
              show OwnDone p e below _ (T207.setTop (mkF m 77 #[.val (.ref r), .val (.int k1), .val (.int x2), .val (.ref st), .val (.ref nu), .val (.ref en), .val (.ref oa), .val (.int (k1 &&& (3 : Int32))), .val (.int (1 : Int32)), .val (.int tq)] [(.int tq), (.int (1 : Int32)), (.ref en), (.ref nu), (.ref r)]))
              refine own_callV (y := (⟨"com/example/tidx/tidx/index/Run", "add", "([I[[Ljava/lang/Object;II)V"⟩ : MethodName)) (z := (⟨"com/example/tidx/tidx/index/Run", "add", "([I[[Ljava/lang/Object;II)V"⟩ : MethodName)) (CC := "com/example/tidx/tidx/index/Run") C P207 Ob.1 (hw _ (List.mem_of_getElem? (i := 81) rfl)) (hw _ (List.mem_of_getElem? (i := 82) rfl)) (hw _ (List.mem_of_getElem? (i := 84) rfl)) (hw _ (List.mem_of_getElem? (i := 84) rfl)) (hw _ (List.mem_of_getElem? (i := 83) rfl)) (hw _ (List.mem_of_getElem? (i := 8) rfl)) (hw _ (List.mem_of_getElem? (i := 85) rfl)) (by decide) (rmal l Z a0 hw r nu en (1 : Int32) tq aR aV aF aT aO aW kR kV kF kT vd sl ow sz rr vv ff tt h0 P207.old g_r g_aR g_aV g_aF g_aT hst Ob YaR lR YaV lV YaF lF YaT lT (by omega) (by omega) (by omega) (by omega) s1_ s2_ In Ie VR VV) (as := [(.ref nu), (.ref en), (.int (1 : Int32)), (.int tq)]) (rest := []) pd_0 rfl rfl (wd := 0) rfl rfl dst_77 (allS (Or.inl (List.mem_of_getElem? (i := 1) rfl)) (allS (Or.inl (List.mem_of_getElem? (i := 2) rfl)) (allS (Or.inl (List.mem_of_getElem? (i := 3) rfl)) (allS (Or.inl (List.mem_of_getElem? (i := 4) rfl)) (allS (Or.inl (List.mem_of_getElem? (i := 5) rfl)) all0))))) (by decide) (by decide) (by decide) (by decide) (fun T239 h239 v239 P239 K239 hQ239 => ?_)
              obtain ⟨rfl, Ob239, YaR239, YaV239, YaF239, YaT239⟩ := hQ239
              have I240_nu := own_insK In K239
              have I241_en := own_insK Ie K239
              have I242_oa := own_insK Ia K239
              have I243_oa := own_insK Ib K239
              have I244_e0 := own_insK Ie0 K239
              have I245_e1 := own_insK Ie1 K239
              have I246_e2 := own_insK Ie2 K239
              have I247_e3 := own_insK Ie3 K239
              have Y248_aO := YaO.keep K239 (ninS (own_neL (by omega)) (ninS (own_neL (by omega)) (ninS (own_neL (by omega)) (ninS (own_neL (by omega)) (ninS (own_neL (by omega)) nin0)))))
              have Y249_aW := YaW.keep K239 (ninS (own_neL (by omega)) (ninS (own_neL (by omega)) (ninS (own_neL (by omega)) (ninS (own_neL (by omega)) (ninS (own_neL (by omega)) nin0)))))
              have Y250_st := Yst.keep K239 (ninS (own_neL (by omega)) (ninS (own_neL (by omega)) (ninS (own_neL (by omega)) (ninS (own_neL (by omega)) (ninS (own_neL (by omega)) nin0)))))
              have Y251_en := Yen.keep K239 (ninS (own_neL (by omega)) (ninS (own_neL (by omega)) (ninS (own_neL (by omega)) (ninS (own_neL (by omega)) (ninS (own_neL (by omega)) nin0)))))
              have laR239 : (rr.set (sl).toNatClampNeg (.ref nu)).length = 4 := by rw [List.length_set]; exact lR
              have laV239 : (vv.set (sl).toNatClampNeg (.ref en)).length = 4 := by rw [List.length_set]; exact lV
              have laF239 : (ff.set (sl).toNatClampNeg (.int (1 : Int32))).length = 4 := by rw [List.length_set]; exact lF
              have laT239 : (tt.set (sl).toNatClampNeg (.int tq)).length = 4 := by rw [List.length_set]; exact lT
              show OwnDone p e below _ (T239.setTop (mkF m 80 #[.val (.ref r), .val (.int k1), .val (.int x2), .val (.ref st), .val (.ref nu), .val (.ref en), .val (.ref oa), .val (.int (k1 &&& (3 : Int32))), .val (.int (1 : Int32)), .val (.int tq)] []))
              refine OwnDone.go (A := (T239.setTop (mkF m 84 #[.val (.ref r), .val (.int k1), .val (.int x2), .val (.ref st), .val (.ref nu), .val (.ref en), .val (.ref oa), .val (.int (k1 &&& (3 : Int32))), .val (.int (1 : Int32)), .val (.int tq)] [(.int tq), (.int (1 : Int32))]))) (fun tQ kQ => ?_) ?_
              · refine XS.iload P239.here hx rfl (hb hby dst_80) rfl ?_
                show Steps p.tables e below (T239.setTop (mkF m 82 #[.val (.ref r), .val (.int k1), .val (.int x2), .val (.ref st), .val (.ref nu), .val (.ref en), .val (.ref oa), .val (.int (k1 &&& (3 : Int32))), .val (.int (1 : Int32)), .val (.int tq)] [(.int (1 : Int32))])) _
                refine XS.iload P239.here hx rfl (hb hby dst_82) rfl ?_
                show Steps p.tables e below (T239.setTop (mkF m 84 #[.val (.ref r), .val (.int k1), .val (.int x2), .val (.ref st), .val (.ref nu), .val (.ref en), .val (.ref oa), .val (.int (k1 &&& (3 : Int32))), .val (.int (1 : Int32)), .val (.int tq)] [(.int tq), (.int (1 : Int32))])) _
                exact kQ
              show OwnDone p e below _ (T239.setTop (mkF m 84 #[.val (.ref r), .val (.int k1), .val (.int x2), .val (.ref st), .val (.ref nu), .val (.ref en), .val (.ref oa), .val (.int (k1 &&& (3 : Int32))), .val (.int (1 : Int32)), .val (.int tq)] [(.int tq), (.int (1 : Int32))]))
              refine OwnDone.go (A := (T239.setTop (mkF m 87 #[.val (.ref r), .val (.int k1), .val (.int x2), .val (.ref st), .val (.ref nu), .val (.ref en), .val (.ref oa), .val (.int (k1 &&& (3 : Int32))), .val (.int (1 : Int32)), .val (.int tq)] []))) (fun tQ kQ => XS.icmpNo P239.here hx rfl (hb hby dst_84) rfl (XT.ii_ge_f hst) kQ) ?_
              show OwnDone p e below _ (T239.setTop (mkF m 87 #[.val (.ref r), .val (.int k1), .val (.int x2), .val (.ref st), .val (.ref nu), .val (.ref en), .val (.ref oa), .val (.int (k1 &&& (3 : Int32))), .val (.int (1 : Int32)), .val (.int tq)] []))
              refine OwnDone.go (A := (T239.setTop (mkF m 90 #[.val (.ref r), .val (.int k1), .val (.int x2), .val (.ref st), .val (.ref nu), .val (.ref en), .val (.ref oa), .val (.int (k1 &&& (3 : Int32))), .val (.int (1 : Int32)), .val (.int tq)] [(.ref b0)]))) (fun tQ kQ => ?_) ?_
              · refine XS.aloadN P239.here hx rfl (hb hby dst_87) rfl rfl ?_
                show Steps p.tables e below (T239.setTop (mkF m 88 #[.val (.ref r), .val (.int k1), .val (.int x2), .val (.ref st), .val (.ref nu), .val (.ref en), .val (.ref oa), .val (.int (k1 &&& (3 : Int32))), .val (.int (1 : Int32)), .val (.int tq)] [(.ref st)])) _
                refine XS.iconst P239.here hx rfl (hb hby dst_88) ?_
                show Steps p.tables e below (T239.setTop (mkF m 89 #[.val (.ref r), .val (.int k1), .val (.int x2), .val (.ref st), .val (.ref nu), .val (.ref en), .val (.ref oa), .val (.int (k1 &&& (3 : Int32))), .val (.int (1 : Int32)), .val (.int tq)] [(.int (0 : Int32)), (.ref st)])) _
                refine own_aaload C P239 Y250_st rfl (by decide) rfl dst_89 ?_
                show Steps p.tables e below (T239.setTop (mkF m 90 #[.val (.ref r), .val (.int k1), .val (.int x2), .val (.ref st), .val (.ref nu), .val (.ref en), .val (.ref oa), .val (.int (k1 &&& (3 : Int32))), .val (.int (1 : Int32)), .val (.int tq)] [(.ref b0)])) _
                exact kQ
              show OwnDone p e below _ (T239.setTop (mkF m 90 #[.val (.ref r), .val (.int k1), .val (.int x2), .val (.ref st), .val (.ref nu), .val (.ref en), .val (.ref oa), .val (.int (k1 &&& (3 : Int32))), .val (.int (1 : Int32)), .val (.int tq)] [(.ref b0)]))
              refine OwnDone.go (A := (T239.setTop (mkF m 101 #[.val (.ref r), .val (.int k1), .val (.int x2), .val (.ref st), .val (.ref nu), .val (.ref en), .val (.ref oa), .val (.int (k1 &&& (3 : Int32))), .val (.int (1 : Int32)), .val (.int tq)] []))) (fun tQ kQ => XT.ifnonnullYes P239.here hx rfl (pc0 := 90) (pc' := 101) rfl (hb hby dst_90) rfl (by decide) (by decide) kQ) ?_
              show OwnDone p e below _ (T239.setTop (mkF m 101 #[.val (.ref r), .val (.int k1), .val (.int x2), .val (.ref st), .val (.ref nu), .val (.ref en), .val (.ref oa), .val (.int (k1 &&& (3 : Int32))), .val (.int (1 : Int32)), .val (.int tq)] []))
              refine OwnDone.go (A := (T239.setTop (mkF m 116 #[.val (.ref r), .val (.int k1), .val (.int x2), .val (.ref st), .val (.ref nu), .val (.ref en), .val (.ref oa), .val (.int (k1 &&& (3 : Int32))), .val (.int (1 : Int32)), .val (.int tq)] []))) (fun tQ kQ => ?_) ?_
              · refine XS.goto P239.here hx rfl (pc0 := 101) (pc' := 116) rfl (hb hby dst_101) (by decide) (by decide) ?_
                show Steps p.tables e below (T239.setTop (mkF m 116 #[.val (.ref r), .val (.int k1), .val (.int x2), .val (.ref st), .val (.ref nu), .val (.ref en), .val (.ref oa), .val (.int (k1 &&& (3 : Int32))), .val (.int (1 : Int32)), .val (.int tq)] [])) _
                exact kQ
              show OwnDone p e below _ (T239.setTop (mkF m 116 #[.val (.ref r), .val (.int k1), .val (.int x2), .val (.ref st), .val (.ref nu), .val (.ref en), .val (.ref oa), .val (.int (k1 &&& (3 : Int32))), .val (.int (1 : Int32)), .val (.int tq)] []))
              rcases j4 with j4 | j4
              · obtain ⟨j4, j5, j6⟩ := j4
                show OwnDone p e below _ (T239.setTop (mkF m 116 #[.val (.ref r), .val (.int k1), .val (.int x2), .val (.ref st), .val (.ref nu), .val (.ref en), .val (.ref oa), .val (.int (k1 &&& (3 : Int32))), .val (.int (1 : Int32)), .val (.int tq)] []))
                refine OwnDone.go (A := (T239.setTop (mkF m 117 #[.val (.ref r), .val (.int k1), .val (.int x2), .val (.ref st), .val (.ref nu), .val (.ref en), .val (.ref oa), .val (.int (k1 &&& (3 : Int32))), .val (.int (1 : Int32)), .val (.int tq)] [(.ref r)]))) (fun tQ kQ => ?_) ?_
                · refine XS.aloadN P239.here hx rfl (hb hby dst_116) rfl rfl ?_
                  show Steps p.tables e below (T239.setTop (mkF m 117 #[.val (.ref r), .val (.int k1), .val (.int x2), .val (.ref st), .val (.ref nu), .val (.ref en), .val (.ref oa), .val (.int (k1 &&& (3 : Int32))), .val (.int (1 : Int32)), .val (.int tq)] [(.ref r)])) _
                  exact kQ
                show OwnDone p e below _ (T239.setTop (mkF m 117 #[.val (.ref r), .val (.int k1), .val (.int x2), .val (.ref st), .val (.ref nu), .val (.ref en), .val (.ref oa), .val (.int (k1 &&& (3 : Int32))), .val (.int (1 : Int32)), .val (.int tq)] [(.ref r)]))
                refine own_callV (y := (⟨"com/example/tidx/tidx/index/Run", "first", "()[Ljava/lang/Object;"⟩ : MethodName)) (z := (⟨"com/example/tidx/tidx/index/Run", "first", "()[Ljava/lang/Object;"⟩ : MethodName)) (CC := "com/example/tidx/tidx/index/Run") C P239 Ob239.1 (hw _ (List.mem_of_getElem? (i := 34) rfl)) (hw _ (List.mem_of_getElem? (i := 35) rfl)) (hw _ (List.mem_of_getElem? (i := 37) rfl)) (hw _ (List.mem_of_getElem? (i := 37) rfl)) (hw _ (List.mem_of_getElem? (i := 36) rfl)) (hw _ (List.mem_of_getElem? (i := 8) rfl)) (hw _ (List.mem_of_getElem? (i := 38) rfl)) (by decide) (rmfb l Z a0 hw r aR aV aF aT aO aW kV kF kW vd (sl + (1 : Int32)) ow (sz + (tq - (1 : Int32))) (vv.set (sl).toNatClampNeg (.ref en)) (ff.set (sl).toNatClampNeg (.int (1 : Int32))) ww aW b0 f h239 P239.old Ob239 YaV239 YaF239 Y249_aW (own_incNe bs (by omega)) ((List.getElem?_set_ne (own_ne0 bs.1 j1)).trans j4) ((List.getElem?_set_ne (own_ne0 bs.1 j1)).trans j2) j3 j5) (as := []) (rest := []) pd_4 rfl rfl (wd := 0) rfl rfl dst_117 all0 (by decide) (by decide) (by decide) (by decide) (fun T252 h252 v252 P252 K252 hQ252 => ?_)
                obtain ⟨rfl, rfl⟩ := hQ252
                show OwnDone p e below _ (T252.setTop (mkF m 120 #[.val (.ref r), .val (.int k1), .val (.int x2), .val (.ref st), .val (.ref nu), .val (.ref en), .val (.ref oa), .val (.int (k1 &&& (3 : Int32))), .val (.int (1 : Int32)), .val (.int tq)] [(.ref b0)]))
                refine OwnDone.go (A := (T252.setTop (mkF m 123 #[.val (.ref r), .val (.int k1), .val (.int x2), .val (.ref st), .val (.ref nu), .val (.ref en), .val (.ref oa), .val (.int (k1 &&& (3 : Int32))), .val (.int (1 : Int32)), .val (.int tq)] [(.ref b0), (.ref b0)]))) (fun tQ kQ => ?_) ?_
                · refine XS.aloadN P252.here hx rfl (hb hby dst_120) rfl rfl ?_
                  show Steps p.tables e below (T252.setTop (mkF m 121 #[.val (.ref r), .val (.int k1), .val (.int x2), .val (.ref st), .val (.ref nu), .val (.ref en), .val (.ref oa), .val (.int (k1 &&& (3 : Int32))), .val (.int (1 : Int32)), .val (.int tq)] [(.ref st), (.ref b0)])) _
                  refine XS.iconst P252.here hx rfl (hb hby dst_121) ?_
                  show Steps p.tables e below (T252.setTop (mkF m 122 #[.val (.ref r), .val (.int k1), .val (.int x2), .val (.ref st), .val (.ref nu), .val (.ref en), .val (.ref oa), .val (.int (k1 &&& (3 : Int32))), .val (.int (1 : Int32)), .val (.int tq)] [(.int (0 : Int32)), (.ref st), (.ref b0)])) _
                  refine own_aaload C P252 Y250_st rfl (by decide) rfl dst_122 ?_
                  show Steps p.tables e below (T252.setTop (mkF m 123 #[.val (.ref r), .val (.int k1), .val (.int x2), .val (.ref st), .val (.ref nu), .val (.ref en), .val (.ref oa), .val (.int (k1 &&& (3 : Int32))), .val (.int (1 : Int32)), .val (.int tq)] [(.ref b0), (.ref b0)])) _
                  exact kQ
                show OwnDone p e below _ (T252.setTop (mkF m 123 #[.val (.ref r), .val (.int k1), .val (.int x2), .val (.ref st), .val (.ref nu), .val (.ref en), .val (.ref oa), .val (.int (k1 &&& (3 : Int32))), .val (.int (1 : Int32)), .val (.int tq)] [(.ref b0), (.ref b0)]))
                refine OwnDone.go (A := (T252.setTop (mkF m 126 #[.val (.ref r), .val (.int k1), .val (.int x2), .val (.ref st), .val (.ref nu), .val (.ref en), .val (.ref oa), .val (.int (k1 &&& (3 : Int32))), .val (.int (1 : Int32)), .val (.int tq)] []))) (fun tQ kQ => XT.acmpNo P252.here hx rfl (hb hby dst_123) rfl rfl rfl (XT.aa_ne_f rfl) kQ) ?_
                show OwnDone p e below _ (T252.setTop (mkF m 126 #[.val (.ref r), .val (.int k1), .val (.int x2), .val (.ref st), .val (.ref nu), .val (.ref en), .val (.ref oa), .val (.int (k1 &&& (3 : Int32))), .val (.int (1 : Int32)), .val (.int tq)] []))
                refine OwnDone.go (A := (T252.setTop (mkF m 131 #[.val (.ref r), .val (.int k1), .val (.int x2), .val (.ref st), .val (.ref nu), .val (.ref en), .val (.ref oa), .val (.int (k1 &&& (3 : Int32))), .val (.int (1 : Int32)), .val (.int tq)] [(.int (1 : Int32))]))) (fun tQ kQ => ?_) ?_
                · refine XS.iconst P252.here hx rfl (hb hby dst_126) ?_
                  show Steps p.tables e below (T252.setTop (mkF m 127 #[.val (.ref r), .val (.int k1), .val (.int x2), .val (.ref st), .val (.ref nu), .val (.ref en), .val (.ref oa), .val (.int (k1 &&& (3 : Int32))), .val (.int (1 : Int32)), .val (.int tq)] [(.int (1 : Int32))])) _
                  refine XS.goto P252.here hx rfl (pc0 := 127) (pc' := 131) rfl (hb hby dst_127) (by decide) (by decide) ?_
                  show Steps p.tables e below (T252.setTop (mkF m 131 #[.val (.ref r), .val (.int k1), .val (.int x2), .val (.ref st), .val (.ref nu), .val (.ref en), .val (.ref oa), .val (.int (k1 &&& (3 : Int32))), .val (.int (1 : Int32)), .val (.int tq)] [(.int (1 : Int32))])) _
                  exact kQ
                show OwnDone p e below _ (T252.setTop (mkF m 131 #[.val (.ref r), .val (.int k1), .val (.int x2), .val (.ref st), .val (.ref nu), .val (.ref en), .val (.ref oa), .val (.int (k1 &&& (3 : Int32))), .val (.int (1 : Int32)), .val (.int tq)] [(.int (1 : Int32))]))
                refine own_retN C P252 (by simp) (z' := (1 : Int32)) (by decide) dst_131 (by decide) (by decide) ?_
                refine ⟨rfl, vd, (sl + (1 : Int32)), ow, (sz + (tq - (1 : Int32))), (rr.set (sl).toNatClampNeg (.ref nu)), (vv.set (sl).toNatClampNeg (.ref en)), (ff.set (sl).toNatClampNeg (.int (1 : Int32))), (tt.set (sl).toNatClampNeg (.int tq)), oo, ww, (.ref b0), s1, Ob239, YaR239, YaV239, YaF239, YaT239, Y248_aO, Y249_aW, Y250_st, Y251_en, ⟨laR239, laV239, laF239, laT239, lO, lW⟩, ?_, ?_, ?_, ?_⟩
                · exact own_inc bs (by omega)
                · exact ⟨bo.1, by have := bo.2; omega⟩
                · exact I1.imp id fun ⟨q1, q2, q3, q4, q5⟩ => ⟨q1, q2, q3, q4, (own_insK q5 K239)⟩
                · exact Or.inr ⟨own_incNe bs (by omega), b0, f, rfl, (List.getElem?_set_ne (own_ne0 bs.1 j1)).trans j2, j3, Or.inl ⟨(List.getElem?_set_ne (own_ne0 bs.1 j1)).trans j4, j5, j6⟩⟩
              · obtain ⟨j4, j5⟩ := j4
                show OwnDone p e below _ (T239.setTop (mkF m 116 #[.val (.ref r), .val (.int k1), .val (.int x2), .val (.ref st), .val (.ref nu), .val (.ref en), .val (.ref oa), .val (.int (k1 &&& (3 : Int32))), .val (.int (1 : Int32)), .val (.int tq)] []))
                refine OwnDone.go (A := (T239.setTop (mkF m 117 #[.val (.ref r), .val (.int k1), .val (.int x2), .val (.ref st), .val (.ref nu), .val (.ref en), .val (.ref oa), .val (.int (k1 &&& (3 : Int32))), .val (.int (1 : Int32)), .val (.int tq)] [(.ref r)]))) (fun tQ kQ => ?_) ?_
                · refine XS.aloadN P239.here hx rfl (hb hby dst_116) rfl rfl ?_
                  show Steps p.tables e below (T239.setTop (mkF m 117 #[.val (.ref r), .val (.int k1), .val (.int x2), .val (.ref st), .val (.ref nu), .val (.ref en), .val (.ref oa), .val (.int (k1 &&& (3 : Int32))), .val (.int (1 : Int32)), .val (.int tq)] [(.ref r)])) _
                  exact kQ
                show OwnDone p e below _ (T239.setTop (mkF m 117 #[.val (.ref r), .val (.int k1), .val (.int x2), .val (.ref st), .val (.ref nu), .val (.ref en), .val (.ref oa), .val (.int (k1 &&& (3 : Int32))), .val (.int (1 : Int32)), .val (.int tq)] [(.ref r)]))
                refine own_callV (y := (⟨"com/example/tidx/tidx/index/Run", "first", "()[Ljava/lang/Object;"⟩ : MethodName)) (z := (⟨"com/example/tidx/tidx/index/Run", "first", "()[Ljava/lang/Object;"⟩ : MethodName)) (CC := "com/example/tidx/tidx/index/Run") C P239 Ob239.1 (hw _ (List.mem_of_getElem? (i := 34) rfl)) (hw _ (List.mem_of_getElem? (i := 35) rfl)) (hw _ (List.mem_of_getElem? (i := 37) rfl)) (hw _ (List.mem_of_getElem? (i := 37) rfl)) (hw _ (List.mem_of_getElem? (i := 36) rfl)) (hw _ (List.mem_of_getElem? (i := 8) rfl)) (hw _ (List.mem_of_getElem? (i := 38) rfl)) (by decide) (rmfb l Z a0 hw r aR aV aF aT aO aW kV kF kE vd (sl + (1 : Int32)) ow (sz + (tq - (1 : Int32))) (vv.set (sl).toNatClampNeg (.ref en)) (ff.set (sl).toNatClampNeg (.int (1 : Int32))) [(.ref e0), (.ref e1), (.ref e2), (.ref e3)] en b0 f h239 P239.old Ob239 YaV239 YaF239 Y251_en (own_incNe bs (by omega)) ((List.getElem?_set_ne (own_ne0 bs.1 j1)).trans j4) ((List.getElem?_set_ne (own_ne0 bs.1 j1)).trans j2) j3 j5) (as := []) (rest := []) pd_4 rfl rfl (wd := 0) rfl rfl dst_117 all0 (by decide) (by decide) (by decide) (by decide) (fun T253 h253 v253 P253 K253 hQ253 => ?_)
                obtain ⟨rfl, rfl⟩ := hQ253
                show OwnDone p e below _ (T253.setTop (mkF m 120 #[.val (.ref r), .val (.int k1), .val (.int x2), .val (.ref st), .val (.ref nu), .val (.ref en), .val (.ref oa), .val (.int (k1 &&& (3 : Int32))), .val (.int (1 : Int32)), .val (.int tq)] [(.ref b0)]))
                refine OwnDone.go (A := (T253.setTop (mkF m 123 #[.val (.ref r), .val (.int k1), .val (.int x2), .val (.ref st), .val (.ref nu), .val (.ref en), .val (.ref oa), .val (.int (k1 &&& (3 : Int32))), .val (.int (1 : Int32)), .val (.int tq)] [(.ref b0), (.ref b0)]))) (fun tQ kQ => ?_) ?_
                · refine XS.aloadN P253.here hx rfl (hb hby dst_120) rfl rfl ?_
                  show Steps p.tables e below (T253.setTop (mkF m 121 #[.val (.ref r), .val (.int k1), .val (.int x2), .val (.ref st), .val (.ref nu), .val (.ref en), .val (.ref oa), .val (.int (k1 &&& (3 : Int32))), .val (.int (1 : Int32)), .val (.int tq)] [(.ref st), (.ref b0)])) _
                  refine XS.iconst P253.here hx rfl (hb hby dst_121) ?_
                  show Steps p.tables e below (T253.setTop (mkF m 122 #[.val (.ref r), .val (.int k1), .val (.int x2), .val (.ref st), .val (.ref nu), .val (.ref en), .val (.ref oa), .val (.int (k1 &&& (3 : Int32))), .val (.int (1 : Int32)), .val (.int tq)] [(.int (0 : Int32)), (.ref st), (.ref b0)])) _
                  refine own_aaload C P253 Y250_st rfl (by decide) rfl dst_122 ?_
                  show Steps p.tables e below (T253.setTop (mkF m 123 #[.val (.ref r), .val (.int k1), .val (.int x2), .val (.ref st), .val (.ref nu), .val (.ref en), .val (.ref oa), .val (.int (k1 &&& (3 : Int32))), .val (.int (1 : Int32)), .val (.int tq)] [(.ref b0), (.ref b0)])) _
                  exact kQ
                show OwnDone p e below _ (T253.setTop (mkF m 123 #[.val (.ref r), .val (.int k1), .val (.int x2), .val (.ref st), .val (.ref nu), .val (.ref en), .val (.ref oa), .val (.int (k1 &&& (3 : Int32))), .val (.int (1 : Int32)), .val (.int tq)] [(.ref b0), (.ref b0)]))
                refine OwnDone.go (A := (T253.setTop (mkF m 126 #[.val (.ref r), .val (.int k1), .val (.int x2), .val (.ref st), .val (.ref nu), .val (.ref en), .val (.ref oa), .val (.int (k1 &&& (3 : Int32))), .val (.int (1 : Int32)), .val (.int tq)] []))) (fun tQ kQ => XT.acmpNo P253.here hx rfl (hb hby dst_123) rfl rfl rfl (XT.aa_ne_f rfl) kQ) ?_
                show OwnDone p e below _ (T253.setTop (mkF m 126 #[.val (.ref r), .val (.int k1), .val (.int x2), .val (.ref st), .val (.ref nu), .val (.ref en), .val (.ref oa), .val (.int (k1 &&& (3 : Int32))), .val (.int (1 : Int32)), .val (.int tq)] []))
                refine OwnDone.go (A := (T253.setTop (mkF m 131 #[.val (.ref r), .val (.int k1), .val (.int x2), .val (.ref st), .val (.ref nu), .val (.ref en), .val (.ref oa), .val (.int (k1 &&& (3 : Int32))), .val (.int (1 : Int32)), .val (.int tq)] [(.int (1 : Int32))]))) (fun tQ kQ => ?_) ?_
                · refine XS.iconst P253.here hx rfl (hb hby dst_126) ?_
                  show Steps p.tables e below (T253.setTop (mkF m 127 #[.val (.ref r), .val (.int k1), .val (.int x2), .val (.ref st), .val (.ref nu), .val (.ref en), .val (.ref oa), .val (.int (k1 &&& (3 : Int32))), .val (.int (1 : Int32)), .val (.int tq)] [(.int (1 : Int32))])) _
                  refine XS.goto P253.here hx rfl (pc0 := 127) (pc' := 131) rfl (hb hby dst_127) (by decide) (by decide) ?_
                  show Steps p.tables e below (T253.setTop (mkF m 131 #[.val (.ref r), .val (.int k1), .val (.int x2), .val (.ref st), .val (.ref nu), .val (.ref en), .val (.ref oa), .val (.int (k1 &&& (3 : Int32))), .val (.int (1 : Int32)), .val (.int tq)] [(.int (1 : Int32))])) _
                  exact kQ
                show OwnDone p e below _ (T253.setTop (mkF m 131 #[.val (.ref r), .val (.int k1), .val (.int x2), .val (.ref st), .val (.ref nu), .val (.ref en), .val (.ref oa), .val (.int (k1 &&& (3 : Int32))), .val (.int (1 : Int32)), .val (.int tq)] [(.int (1 : Int32))]))
                refine own_retN C P253 (by simp) (z' := (1 : Int32)) (by decide) dst_131 (by decide) (by decide) ?_
                refine ⟨rfl, vd, (sl + (1 : Int32)), ow, (sz + (tq - (1 : Int32))), (rr.set (sl).toNatClampNeg (.ref nu)), (vv.set (sl).toNatClampNeg (.ref en)), (ff.set (sl).toNatClampNeg (.int (1 : Int32))), (tt.set (sl).toNatClampNeg (.int tq)), oo, ww, (.ref b0), s1, Ob239, YaR239, YaV239, YaF239, YaT239, Y248_aO, Y249_aW, Y250_st, Y251_en, ⟨laR239, laV239, laF239, laT239, lO, lW⟩, ?_, ?_, ?_, ?_⟩
                · exact own_inc bs (by omega)
                · exact ⟨bo.1, by have := bo.2; omega⟩
                · exact I1.imp id fun ⟨q1, q2, q3, q4, q5⟩ => ⟨q1, q2, q3, q4, (own_insK q5 K239)⟩
                · exact Or.inr ⟨own_incNe bs (by omega), b0, f, rfl, (List.getElem?_set_ne (own_ne0 bs.1 j1)).trans j2, j3, Or.inr ⟨(List.getElem?_set_ne (own_ne0 bs.1 j1)).trans j4, j5⟩⟩
          · rcases I0 with I0 | I0
            · obtain ⟨j1, rfl⟩ := I0
              show OwnDone p e below _ (T207.setTop (mkF m 77 #[.val (.ref r), .val (.int k1), .val (.int x2), .val (.ref st), .val (.ref nu), .val (.ref en), .val (.ref oa), .val (.int (k1 &&& (3 : Int32))), .val (.int (1 : Int32)), .val (.int tq)] [(.int tq), (.int (1 : Int32)), (.ref en), (.ref nu), (.ref r)]))
              refine own_callV (y := (⟨"com/example/tidx/tidx/index/Run", "add", "([I[[Ljava/lang/Object;II)V"⟩ : MethodName)) (z := (⟨"com/example/tidx/tidx/index/Run", "add", "([I[[Ljava/lang/Object;II)V"⟩ : MethodName)) (CC := "com/example/tidx/tidx/index/Run") C P207 Ob.1 (hw _ (List.mem_of_getElem? (i := 81) rfl)) (hw _ (List.mem_of_getElem? (i := 82) rfl)) (hw _ (List.mem_of_getElem? (i := 84) rfl)) (hw _ (List.mem_of_getElem? (i := 84) rfl)) (hw _ (List.mem_of_getElem? (i := 83) rfl)) (hw _ (List.mem_of_getElem? (i := 8) rfl)) (hw _ (List.mem_of_getElem? (i := 85) rfl)) (by decide) (rmag l Z a0 hw r nu en (1 : Int32) tq h0 P207.old hst) (as := [(.ref nu), (.ref en), (.int (1 : Int32)), (.int tq)]) (rest := []) pd_0 rfl rfl (wd := 0) rfl rfl dst_77 all0 (by decide) (by decide) (by decide) (by decide) (fun T254 h254 v254 P254 K254 hQ254 => ?_)
              obtain ⟨rfl, rfl⟩ := hQ254
              show OwnDone p e below _ (T254.setTop (mkF m 80 #[.val (.ref r), .val (.int k1), .val (.int x2), .val (.ref st), .val (.ref nu), .val (.ref en), .val (.ref oa), .val (.int (k1 &&& (3 : Int32))), .val (.int (1 : Int32)), .val (.int tq)] []))
              refine OwnDone.go (A := (T254.setTop (mkF m 84 #[.val (.ref r), .val (.int k1), .val (.int x2), .val (.ref st), .val (.ref nu), .val (.ref en), .val (.ref oa), .val (.int (k1 &&& (3 : Int32))), .val (.int (1 : Int32)), .val (.int tq)] [(.int tq), (.int (1 : Int32))]))) (fun tQ kQ => ?_) ?_
              · refine XS.iload P254.here hx rfl (hb hby dst_80) rfl ?_
                show Steps p.tables e below (T254.setTop (mkF m 82 #[.val (.ref r), .val (.int k1), .val (.int x2), .val (.ref st), .val (.ref nu), .val (.ref en), .val (.ref oa), .val (.int (k1 &&& (3 : Int32))), .val (.int (1 : Int32)), .val (.int tq)] [(.int (1 : Int32))])) _
                refine XS.iload P254.here hx rfl (hb hby dst_82) rfl ?_
                show Steps p.tables e below (T254.setTop (mkF m 84 #[.val (.ref r), .val (.int k1), .val (.int x2), .val (.ref st), .val (.ref nu), .val (.ref en), .val (.ref oa), .val (.int (k1 &&& (3 : Int32))), .val (.int (1 : Int32)), .val (.int tq)] [(.int tq), (.int (1 : Int32))])) _
                exact kQ
              show OwnDone p e below _ (T254.setTop (mkF m 84 #[.val (.ref r), .val (.int k1), .val (.int x2), .val (.ref st), .val (.ref nu), .val (.ref en), .val (.ref oa), .val (.int (k1 &&& (3 : Int32))), .val (.int (1 : Int32)), .val (.int tq)] [(.int tq), (.int (1 : Int32))]))
              refine OwnDone.go (A := (T254.setTop (mkF m 101 #[.val (.ref r), .val (.int k1), .val (.int x2), .val (.ref st), .val (.ref nu), .val (.ref en), .val (.ref oa), .val (.int (k1 &&& (3 : Int32))), .val (.int (1 : Int32)), .val (.int tq)] []))) (fun tQ kQ => XS.icmpYes P254.here hx rfl (pc0 := 84) (pc' := 101) rfl (hb hby dst_84) rfl (XT.ii_ge_t hst) (by decide) (by decide) kQ) ?_
              show OwnDone p e below _ (T254.setTop (mkF m 101 #[.val (.ref r), .val (.int k1), .val (.int x2), .val (.ref st), .val (.ref nu), .val (.ref en), .val (.ref oa), .val (.int (k1 &&& (3 : Int32))), .val (.int (1 : Int32)), .val (.int tq)] []))
              refine OwnDone.go (A := (T254.setTop (mkF m 116 #[.val (.ref r), .val (.int k1), .val (.int x2), .val (.ref st), .val (.ref nu), .val (.ref en), .val (.ref oa), .val (.int (k1 &&& (3 : Int32))), .val (.int (1 : Int32)), .val (.int tq)] []))) (fun tQ kQ => ?_) ?_
              · refine XS.goto P254.here hx rfl (pc0 := 101) (pc' := 116) rfl (hb hby dst_101) (by decide) (by decide) ?_
                show Steps p.tables e below (T254.setTop (mkF m 116 #[.val (.ref r), .val (.int k1), .val (.int x2), .val (.ref st), .val (.ref nu), .val (.ref en), .val (.ref oa), .val (.int (k1 &&& (3 : Int32))), .val (.int (1 : Int32)), .val (.int tq)] [])) _
                exact kQ
              show OwnDone p e below _ (T254.setTop (mkF m 116 #[.val (.ref r), .val (.int k1), .val (.int x2), .val (.ref st), .val (.ref nu), .val (.ref en), .val (.ref oa), .val (.int (k1 &&& (3 : Int32))), .val (.int (1 : Int32)), .val (.int tq)] []))
              subst j1
              refine OwnDone.go (A := (T254.setTop (mkF m 117 #[.val (.ref r), .val (.int k1), .val (.int x2), .val (.ref st), .val (.ref nu), .val (.ref en), .val (.ref oa), .val (.int (k1 &&& (3 : Int32))), .val (.int (1 : Int32)), .val (.int tq)] [(.ref r)]))) (fun tQ kQ => ?_) ?_
              · refine XS.aloadN P254.here hx rfl (hb hby dst_116) rfl rfl ?_
                show Steps p.tables e below (T254.setTop (mkF m 117 #[.val (.ref r), .val (.int k1), .val (.int x2), .val (.ref st), .val (.ref nu), .val (.ref en), .val (.ref oa), .val (.int (k1 &&& (3 : Int32))), .val (.int (1 : Int32)), .val (.int tq)] [(.ref r)])) _
                exact kQ
              show OwnDone p e below _ (T254.setTop (mkF m 117 #[.val (.ref r), .val (.int k1), .val (.int x2), .val (.ref st), .val (.ref nu), .val (.ref en), .val (.ref oa), .val (.int (k1 &&& (3 : Int32))), .val (.int (1 : Int32)), .val (.int tq)] [(.ref r)]))
              refine own_callV (y := (⟨"com/example/tidx/tidx/index/Run", "first", "()[Ljava/lang/Object;"⟩ : MethodName)) (z := (⟨"com/example/tidx/tidx/index/Run", "first", "()[Ljava/lang/Object;"⟩ : MethodName)) (CC := "com/example/tidx/tidx/index/Run") C P254 Ob.1 (hw _ (List.mem_of_getElem? (i := 34) rfl)) (hw _ (List.mem_of_getElem? (i := 35) rfl)) (hw _ (List.mem_of_getElem? (i := 37) rfl)) (hw _ (List.mem_of_getElem? (i := 37) rfl)) (hw _ (List.mem_of_getElem? (i := 36) rfl)) (hw _ (List.mem_of_getElem? (i := 8) rfl)) (hw _ (List.mem_of_getElem? (i := 38) rfl)) (by decide) (rmfa l Z a0 hw r aR aV aF aT aO aW vd ow sz h0 P254.old Ob) (as := []) (rest := []) pd_4 rfl rfl (wd := 0) rfl rfl dst_117 all0 (by decide) (by decide) (by decide) (by decide) (fun T255 h255 v255 P255 K255 hQ255 => ?_)
              obtain ⟨rfl, rfl⟩ := hQ255
              show OwnDone p e below _ (T255.setTop (mkF m 120 #[.val (.ref r), .val (.int k1), .val (.int x2), .val (.ref st), .val (.ref nu), .val (.ref en), .val (.ref oa), .val (.int (k1 &&& (3 : Int32))), .val (.int (1 : Int32)), .val (.int tq)] [.null]))
              refine OwnDone.go (A := (T255.setTop (mkF m 123 #[.val (.ref r), .val (.int k1), .val (.int x2), .val (.ref st), .val (.ref nu), .val (.ref en), .val (.ref oa), .val (.int (k1 &&& (3 : Int32))), .val (.int (1 : Int32)), .val (.int tq)] [.null, .null]))) (fun tQ kQ => ?_) ?_
              · refine XS.aloadN P255.here hx rfl (hb hby dst_120) rfl rfl ?_
                show Steps p.tables e below (T255.setTop (mkF m 121 #[.val (.ref r), .val (.int k1), .val (.int x2), .val (.ref st), .val (.ref nu), .val (.ref en), .val (.ref oa), .val (.int (k1 &&& (3 : Int32))), .val (.int (1 : Int32)), .val (.int tq)] [(.ref st), .null])) _
                refine XS.iconst P255.here hx rfl (hb hby dst_121) ?_
                show Steps p.tables e below (T255.setTop (mkF m 122 #[.val (.ref r), .val (.int k1), .val (.int x2), .val (.ref st), .val (.ref nu), .val (.ref en), .val (.ref oa), .val (.int (k1 &&& (3 : Int32))), .val (.int (1 : Int32)), .val (.int tq)] [(.int (0 : Int32)), (.ref st), .null])) _
                refine own_aaload C P255 Yst rfl (by decide) rfl dst_122 ?_
                show Steps p.tables e below (T255.setTop (mkF m 123 #[.val (.ref r), .val (.int k1), .val (.int x2), .val (.ref st), .val (.ref nu), .val (.ref en), .val (.ref oa), .val (.int (k1 &&& (3 : Int32))), .val (.int (1 : Int32)), .val (.int tq)] [.null, .null])) _
                exact kQ
              show OwnDone p e below _ (T255.setTop (mkF m 123 #[.val (.ref r), .val (.int k1), .val (.int x2), .val (.ref st), .val (.ref nu), .val (.ref en), .val (.ref oa), .val (.int (k1 &&& (3 : Int32))), .val (.int (1 : Int32)), .val (.int tq)] [.null, .null]))
              refine OwnDone.go (A := (T255.setTop (mkF m 126 #[.val (.ref r), .val (.int k1), .val (.int x2), .val (.ref st), .val (.ref nu), .val (.ref en), .val (.ref oa), .val (.int (k1 &&& (3 : Int32))), .val (.int (1 : Int32)), .val (.int tq)] []))) (fun tQ kQ => XT.acmpNo P255.here hx rfl (hb hby dst_123) rfl rfl rfl (XT.aa_ne_f rfl) kQ) ?_
              show OwnDone p e below _ (T255.setTop (mkF m 126 #[.val (.ref r), .val (.int k1), .val (.int x2), .val (.ref st), .val (.ref nu), .val (.ref en), .val (.ref oa), .val (.int (k1 &&& (3 : Int32))), .val (.int (1 : Int32)), .val (.int tq)] []))
              refine OwnDone.go (A := (T255.setTop (mkF m 131 #[.val (.ref r), .val (.int k1), .val (.int x2), .val (.ref st), .val (.ref nu), .val (.ref en), .val (.ref oa), .val (.int (k1 &&& (3 : Int32))), .val (.int (1 : Int32)), .val (.int tq)] [(.int (1 : Int32))]))) (fun tQ kQ => ?_) ?_
              · refine XS.iconst P255.here hx rfl (hb hby dst_126) ?_
                show Steps p.tables e below (T255.setTop (mkF m 127 #[.val (.ref r), .val (.int k1), .val (.int x2), .val (.ref st), .val (.ref nu), .val (.ref en), .val (.ref oa), .val (.int (k1 &&& (3 : Int32))), .val (.int (1 : Int32)), .val (.int tq)] [(.int (1 : Int32))])) _
                refine XS.goto P255.here hx rfl (pc0 := 127) (pc' := 131) rfl (hb hby dst_127) (by decide) (by decide) ?_
                show Steps p.tables e below (T255.setTop (mkF m 131 #[.val (.ref r), .val (.int k1), .val (.int x2), .val (.ref st), .val (.ref nu), .val (.ref en), .val (.ref oa), .val (.int (k1 &&& (3 : Int32))), .val (.int (1 : Int32)), .val (.int tq)] [(.int (1 : Int32))])) _
                exact kQ
              show OwnDone p e below _ (T255.setTop (mkF m 131 #[.val (.ref r), .val (.int k1), .val (.int x2), .val (.ref st), .val (.ref nu), .val (.ref en), .val (.ref oa), .val (.int (k1 &&& (3 : Int32))), .val (.int (1 : Int32)), .val (.int tq)] [(.int (1 : Int32))]))
              refine own_retN C P255 (by simp) (z' := (1 : Int32)) (by decide) dst_131 (by decide) (by decide) ?_
              refine ⟨rfl, vd, (0 : Int32), ow, sz, rr, vv, ff, tt, oo, ww, .null, s1, Ob, YaR, YaV, YaF, YaT, YaO, YaW, Yst, Yen, ⟨lR, lV, lF, lT, lO, lW⟩, ?_, ?_, ?_, ?_⟩
              · exact ⟨bs.1, by have := bs.2; omega⟩
              · exact ⟨bo.1, by have := bo.2; omega⟩
              · exact I1.imp id fun ⟨q1, q2, q3, q4, q5⟩ => ⟨q1, q2, q3, q4, q5⟩
              · exact Or.inl ⟨rfl, rfl⟩
            · obtain ⟨j1, b0, f, rfl, j2, j3, j4⟩ := I0
              show OwnDone p e below _ (T207.setTop (mkF m 77 #[.val (.ref r), .val (.int k1), .val (.int x2), .val (.ref st), .val (.ref nu), .val (.ref en), .val (.ref oa), .val (.int (k1 &&& (3 : Int32))), .val (.int (1 : Int32)), .val (.int tq)] [(.int tq), (.int (1 : Int32)), (.ref en), (.ref nu), (.ref r)]))
              refine own_callV (y := (⟨"com/example/tidx/tidx/index/Run", "add", "([I[[Ljava/lang/Object;II)V"⟩ : MethodName)) (z := (⟨"com/example/tidx/tidx/index/Run", "add", "([I[[Ljava/lang/Object;II)V"⟩ : MethodName)) (CC := "com/example/tidx/tidx/index/Run") C P207 Ob.1 (hw _ (List.mem_of_getElem? (i := 81) rfl)) (hw _ (List.mem_of_getElem? (i := 82) rfl)) (hw _ (List.mem_of_getElem? (i := 84) rfl)) (hw _ (List.mem_of_getElem? (i := 84) rfl)) (hw _ (List.mem_of_getElem? (i := 83) rfl)) (hw _ (List.mem_of_getElem? (i := 8) rfl)) (hw _ (List.mem_of_getElem? (i := 85) rfl)) (by decide) (rmag l Z a0 hw r nu en (1 : Int32) tq h0 P207.old hst) (as := [(.ref nu), (.ref en), (.int (1 : Int32)), (.int tq)]) (rest := []) pd_0 rfl rfl (wd := 0) rfl rfl dst_77 all0 (by decide) (by decide) (by decide) (by decide) (fun T256 h256 v256 P256 K256 hQ256 => ?_)
              obtain ⟨rfl, rfl⟩ := hQ256
              show OwnDone p e below _ (T256.setTop (mkF m 80 #[.val (.ref r), .val (.int k1), .val (.int x2), .val (.ref st), .val (.ref nu), .val (.ref en), .val (.ref oa), .val (.int (k1 &&& (3 : Int32))), .val (.int (1 : Int32)), .val (.int tq)] []))
              refine OwnDone.go (A := (T256.setTop (mkF m 84 #[.val (.ref r), .val (.int k1), .val (.int x2), .val (.ref st), .val (.ref nu), .val (.ref en), .val (.ref oa), .val (.int (k1 &&& (3 : Int32))), .val (.int (1 : Int32)), .val (.int tq)] [(.int tq), (.int (1 : Int32))]))) (fun tQ kQ => ?_) ?_
              · refine XS.iload P256.here hx rfl (hb hby dst_80) rfl ?_
                show Steps p.tables e below (T256.setTop (mkF m 82 #[.val (.ref r), .val (.int k1), .val (.int x2), .val (.ref st), .val (.ref nu), .val (.ref en), .val (.ref oa), .val (.int (k1 &&& (3 : Int32))), .val (.int (1 : Int32)), .val (.int tq)] [(.int (1 : Int32))])) _
                refine XS.iload P256.here hx rfl (hb hby dst_82) rfl ?_
                show Steps p.tables e below (T256.setTop (mkF m 84 #[.val (.ref r), .val (.int k1), .val (.int x2), .val (.ref st), .val (.ref nu), .val (.ref en), .val (.ref oa), .val (.int (k1 &&& (3 : Int32))), .val (.int (1 : Int32)), .val (.int tq)] [(.int tq), (.int (1 : Int32))])) _
                exact kQ
              show OwnDone p e below _ (T256.setTop (mkF m 84 #[.val (.ref r), .val (.int k1), .val (.int x2), .val (.ref st), .val (.ref nu), .val (.ref en), .val (.ref oa), .val (.int (k1 &&& (3 : Int32))), .val (.int (1 : Int32)), .val (.int tq)] [(.int tq), (.int (1 : Int32))]))
              refine OwnDone.go (A := (T256.setTop (mkF m 101 #[.val (.ref r), .val (.int k1), .val (.int x2), .val (.ref st), .val (.ref nu), .val (.ref en), .val (.ref oa), .val (.int (k1 &&& (3 : Int32))), .val (.int (1 : Int32)), .val (.int tq)] []))) (fun tQ kQ => XS.icmpYes P256.here hx rfl (pc0 := 84) (pc' := 101) rfl (hb hby dst_84) rfl (XT.ii_ge_t hst) (by decide) (by decide) kQ) ?_
              show OwnDone p e below _ (T256.setTop (mkF m 101 #[.val (.ref r), .val (.int k1), .val (.int x2), .val (.ref st), .val (.ref nu), .val (.ref en), .val (.ref oa), .val (.int (k1 &&& (3 : Int32))), .val (.int (1 : Int32)), .val (.int tq)] []))
              refine OwnDone.go (A := (T256.setTop (mkF m 116 #[.val (.ref r), .val (.int k1), .val (.int x2), .val (.ref st), .val (.ref nu), .val (.ref en), .val (.ref oa), .val (.int (k1 &&& (3 : Int32))), .val (.int (1 : Int32)), .val (.int tq)] []))) (fun tQ kQ => ?_) ?_
              · refine XS.goto P256.here hx rfl (pc0 := 101) (pc' := 116) rfl (hb hby dst_101) (by decide) (by decide) ?_
                show Steps p.tables e below (T256.setTop (mkF m 116 #[.val (.ref r), .val (.int k1), .val (.int x2), .val (.ref st), .val (.ref nu), .val (.ref en), .val (.ref oa), .val (.int (k1 &&& (3 : Int32))), .val (.int (1 : Int32)), .val (.int tq)] [])) _
                exact kQ
              show OwnDone p e below _ (T256.setTop (mkF m 116 #[.val (.ref r), .val (.int k1), .val (.int x2), .val (.ref st), .val (.ref nu), .val (.ref en), .val (.ref oa), .val (.int (k1 &&& (3 : Int32))), .val (.int (1 : Int32)), .val (.int tq)] []))
              rcases j4 with j4 | j4
              · obtain ⟨j4, j5, j6⟩ := j4
                show OwnDone p e below _ (T256.setTop (mkF m 116 #[.val (.ref r), .val (.int k1), .val (.int x2), .val (.ref st), .val (.ref nu), .val (.ref en), .val (.ref oa), .val (.int (k1 &&& (3 : Int32))), .val (.int (1 : Int32)), .val (.int tq)] []))
                refine OwnDone.go (A := (T256.setTop (mkF m 117 #[.val (.ref r), .val (.int k1), .val (.int x2), .val (.ref st), .val (.ref nu), .val (.ref en), .val (.ref oa), .val (.int (k1 &&& (3 : Int32))), .val (.int (1 : Int32)), .val (.int tq)] [(.ref r)]))) (fun tQ kQ => ?_) ?_
                · refine XS.aloadN P256.here hx rfl (hb hby dst_116) rfl rfl ?_
                  show Steps p.tables e below (T256.setTop (mkF m 117 #[.val (.ref r), .val (.int k1), .val (.int x2), .val (.ref st), .val (.ref nu), .val (.ref en), .val (.ref oa), .val (.int (k1 &&& (3 : Int32))), .val (.int (1 : Int32)), .val (.int tq)] [(.ref r)])) _
                  exact kQ
                show OwnDone p e below _ (T256.setTop (mkF m 117 #[.val (.ref r), .val (.int k1), .val (.int x2), .val (.ref st), .val (.ref nu), .val (.ref en), .val (.ref oa), .val (.int (k1 &&& (3 : Int32))), .val (.int (1 : Int32)), .val (.int tq)] [(.ref r)]))
                refine own_callV (y := (⟨"com/example/tidx/tidx/index/Run", "first", "()[Ljava/lang/Object;"⟩ : MethodName)) (z := (⟨"com/example/tidx/tidx/index/Run", "first", "()[Ljava/lang/Object;"⟩ : MethodName)) (CC := "com/example/tidx/tidx/index/Run") C P256 Ob.1 (hw _ (List.mem_of_getElem? (i := 34) rfl)) (hw _ (List.mem_of_getElem? (i := 35) rfl)) (hw _ (List.mem_of_getElem? (i := 37) rfl)) (hw _ (List.mem_of_getElem? (i := 37) rfl)) (hw _ (List.mem_of_getElem? (i := 36) rfl)) (hw _ (List.mem_of_getElem? (i := 8) rfl)) (hw _ (List.mem_of_getElem? (i := 38) rfl)) (by decide) (rmfb l Z a0 hw r aR aV aF aT aO aW kV kF kW vd sl ow sz vv ff ww aW b0 f h0 P256.old Ob YaV YaF YaW j1 j4 j2 j3 j5) (as := []) (rest := []) pd_4 rfl rfl (wd := 0) rfl rfl dst_117 all0 (by decide) (by decide) (by decide) (by decide) (fun T257 h257 v257 P257 K257 hQ257 => ?_)
                obtain ⟨rfl, rfl⟩ := hQ257
                show OwnDone p e below _ (T257.setTop (mkF m 120 #[.val (.ref r), .val (.int k1), .val (.int x2), .val (.ref st), .val (.ref nu), .val (.ref en), .val (.ref oa), .val (.int (k1 &&& (3 : Int32))), .val (.int (1 : Int32)), .val (.int tq)] [(.ref b0)]))
                refine OwnDone.go (A := (T257.setTop (mkF m 123 #[.val (.ref r), .val (.int k1), .val (.int x2), .val (.ref st), .val (.ref nu), .val (.ref en), .val (.ref oa), .val (.int (k1 &&& (3 : Int32))), .val (.int (1 : Int32)), .val (.int tq)] [(.ref b0), (.ref b0)]))) (fun tQ kQ => ?_) ?_
                · refine XS.aloadN P257.here hx rfl (hb hby dst_120) rfl rfl ?_
                  show Steps p.tables e below (T257.setTop (mkF m 121 #[.val (.ref r), .val (.int k1), .val (.int x2), .val (.ref st), .val (.ref nu), .val (.ref en), .val (.ref oa), .val (.int (k1 &&& (3 : Int32))), .val (.int (1 : Int32)), .val (.int tq)] [(.ref st), (.ref b0)])) _
                  refine XS.iconst P257.here hx rfl (hb hby dst_121) ?_
                  show Steps p.tables e below (T257.setTop (mkF m 122 #[.val (.ref r), .val (.int k1), .val (.int x2), .val (.ref st), .val (.ref nu), .val (.ref en), .val (.ref oa), .val (.int (k1 &&& (3 : Int32))), .val (.int (1 : Int32)), .val (.int tq)] [(.int (0 : Int32)), (.ref st), (.ref b0)])) _
                  refine own_aaload C P257 Yst rfl (by decide) rfl dst_122 ?_
                  show Steps p.tables e below (T257.setTop (mkF m 123 #[.val (.ref r), .val (.int k1), .val (.int x2), .val (.ref st), .val (.ref nu), .val (.ref en), .val (.ref oa), .val (.int (k1 &&& (3 : Int32))), .val (.int (1 : Int32)), .val (.int tq)] [(.ref b0), (.ref b0)])) _
                  exact kQ
                show OwnDone p e below _ (T257.setTop (mkF m 123 #[.val (.ref r), .val (.int k1), .val (.int x2), .val (.ref st), .val (.ref nu), .val (.ref en), .val (.ref oa), .val (.int (k1 &&& (3 : Int32))), .val (.int (1 : Int32)), .val (.int tq)] [(.ref b0), (.ref b0)]))
                refine OwnDone.go (A := (T257.setTop (mkF m 126 #[.val (.ref r), .val (.int k1), .val (.int x2), .val (.ref st), .val (.ref nu), .val (.ref en), .val (.ref oa), .val (.int (k1 &&& (3 : Int32))), .val (.int (1 : Int32)), .val (.int tq)] []))) (fun tQ kQ => XT.acmpNo P257.here hx rfl (hb hby dst_123) rfl rfl rfl (XT.aa_ne_f rfl) kQ) ?_
                show OwnDone p e below _ (T257.setTop (mkF m 126 #[.val (.ref r), .val (.int k1), .val (.int x2), .val (.ref st), .val (.ref nu), .val (.ref en), .val (.ref oa), .val (.int (k1 &&& (3 : Int32))), .val (.int (1 : Int32)), .val (.int tq)] []))
                refine OwnDone.go (A := (T257.setTop (mkF m 131 #[.val (.ref r), .val (.int k1), .val (.int x2), .val (.ref st), .val (.ref nu), .val (.ref en), .val (.ref oa), .val (.int (k1 &&& (3 : Int32))), .val (.int (1 : Int32)), .val (.int tq)] [(.int (1 : Int32))]))) (fun tQ kQ => ?_) ?_
                · refine XS.iconst P257.here hx rfl (hb hby dst_126) ?_
                  show Steps p.tables e below (T257.setTop (mkF m 127 #[.val (.ref r), .val (.int k1), .val (.int x2), .val (.ref st), .val (.ref nu), .val (.ref en), .val (.ref oa), .val (.int (k1 &&& (3 : Int32))), .val (.int (1 : Int32)), .val (.int tq)] [(.int (1 : Int32))])) _
                  refine XS.goto P257.here hx rfl (pc0 := 127) (pc' := 131) rfl (hb hby dst_127) (by decide) (by decide) ?_
                  show Steps p.tables e below (T257.setTop (mkF m 131 #[.val (.ref r), .val (.int k1), .val (.int x2), .val (.ref st), .val (.ref nu), .val (.ref en), .val (.ref oa), .val (.int (k1 &&& (3 : Int32))), .val (.int (1 : Int32)), .val (.int tq)] [(.int (1 : Int32))])) _
                  exact kQ
                show OwnDone p e below _ (T257.setTop (mkF m 131 #[.val (.ref r), .val (.int k1), .val (.int x2), .val (.ref st), .val (.ref nu), .val (.ref en), .val (.ref oa), .val (.int (k1 &&& (3 : Int32))), .val (.int (1 : Int32)), .val (.int tq)] [(.int (1 : Int32))]))
                refine own_retN C P257 (by simp) (z' := (1 : Int32)) (by decide) dst_131 (by decide) (by decide) ?_
                refine ⟨rfl, vd, sl, ow, sz, rr, vv, ff, tt, oo, ww, (.ref b0), s1, Ob, YaR, YaV, YaF, YaT, YaO, YaW, Yst, Yen, ⟨lR, lV, lF, lT, lO, lW⟩, ?_, ?_, ?_, ?_⟩
                · exact ⟨bs.1, by have := bs.2; omega⟩
                · exact ⟨bo.1, by have := bo.2; omega⟩
                · exact I1.imp id fun ⟨q1, q2, q3, q4, q5⟩ => ⟨q1, q2, q3, q4, q5⟩
                · exact Or.inr ⟨j1, b0, f, rfl, j2, j3, Or.inl ⟨j4, j5, j6⟩⟩
              · obtain ⟨j4, j5⟩ := j4
                show OwnDone p e below _ (T256.setTop (mkF m 116 #[.val (.ref r), .val (.int k1), .val (.int x2), .val (.ref st), .val (.ref nu), .val (.ref en), .val (.ref oa), .val (.int (k1 &&& (3 : Int32))), .val (.int (1 : Int32)), .val (.int tq)] []))
                refine OwnDone.go (A := (T256.setTop (mkF m 117 #[.val (.ref r), .val (.int k1), .val (.int x2), .val (.ref st), .val (.ref nu), .val (.ref en), .val (.ref oa), .val (.int (k1 &&& (3 : Int32))), .val (.int (1 : Int32)), .val (.int tq)] [(.ref r)]))) (fun tQ kQ => ?_) ?_
                · refine XS.aloadN P256.here hx rfl (hb hby dst_116) rfl rfl ?_
                  show Steps p.tables e below (T256.setTop (mkF m 117 #[.val (.ref r), .val (.int k1), .val (.int x2), .val (.ref st), .val (.ref nu), .val (.ref en), .val (.ref oa), .val (.int (k1 &&& (3 : Int32))), .val (.int (1 : Int32)), .val (.int tq)] [(.ref r)])) _
                  exact kQ
                show OwnDone p e below _ (T256.setTop (mkF m 117 #[.val (.ref r), .val (.int k1), .val (.int x2), .val (.ref st), .val (.ref nu), .val (.ref en), .val (.ref oa), .val (.int (k1 &&& (3 : Int32))), .val (.int (1 : Int32)), .val (.int tq)] [(.ref r)]))
                refine own_callV (y := (⟨"com/example/tidx/tidx/index/Run", "first", "()[Ljava/lang/Object;"⟩ : MethodName)) (z := (⟨"com/example/tidx/tidx/index/Run", "first", "()[Ljava/lang/Object;"⟩ : MethodName)) (CC := "com/example/tidx/tidx/index/Run") C P256 Ob.1 (hw _ (List.mem_of_getElem? (i := 34) rfl)) (hw _ (List.mem_of_getElem? (i := 35) rfl)) (hw _ (List.mem_of_getElem? (i := 37) rfl)) (hw _ (List.mem_of_getElem? (i := 37) rfl)) (hw _ (List.mem_of_getElem? (i := 36) rfl)) (hw _ (List.mem_of_getElem? (i := 8) rfl)) (hw _ (List.mem_of_getElem? (i := 38) rfl)) (by decide) (rmfb l Z a0 hw r aR aV aF aT aO aW kV kF kE vd sl ow sz vv ff [(.ref e0), (.ref e1), (.ref e2), (.ref e3)] en b0 f h0 P256.old Ob YaV YaF Yen j1 j4 j2 j3 j5) (as := []) (rest := []) pd_4 rfl rfl (wd := 0) rfl rfl dst_117 all0 (by decide) (by decide) (by decide) (by decide) (fun T258 h258 v258 P258 K258 hQ258 => ?_)
                obtain ⟨rfl, rfl⟩ := hQ258
                show OwnDone p e below _ (T258.setTop (mkF m 120 #[.val (.ref r), .val (.int k1), .val (.int x2), .val (.ref st), .val (.ref nu), .val (.ref en), .val (.ref oa), .val (.int (k1 &&& (3 : Int32))), .val (.int (1 : Int32)), .val (.int tq)] [(.ref b0)]))
                refine OwnDone.go (A := (T258.setTop (mkF m 123 #[.val (.ref r), .val (.int k1), .val (.int x2), .val (.ref st), .val (.ref nu), .val (.ref en), .val (.ref oa), .val (.int (k1 &&& (3 : Int32))), .val (.int (1 : Int32)), .val (.int tq)] [(.ref b0), (.ref b0)]))) (fun tQ kQ => ?_) ?_
                · refine XS.aloadN P258.here hx rfl (hb hby dst_120) rfl rfl ?_
                  show Steps p.tables e below (T258.setTop (mkF m 121 #[.val (.ref r), .val (.int k1), .val (.int x2), .val (.ref st), .val (.ref nu), .val (.ref en), .val (.ref oa), .val (.int (k1 &&& (3 : Int32))), .val (.int (1 : Int32)), .val (.int tq)] [(.ref st), (.ref b0)])) _
                  refine XS.iconst P258.here hx rfl (hb hby dst_121) ?_
                  show Steps p.tables e below (T258.setTop (mkF m 122 #[.val (.ref r), .val (.int k1), .val (.int x2), .val (.ref st), .val (.ref nu), .val (.ref en), .val (.ref oa), .val (.int (k1 &&& (3 : Int32))), .val (.int (1 : Int32)), .val (.int tq)] [(.int (0 : Int32)), (.ref st), (.ref b0)])) _
                  refine own_aaload C P258 Yst rfl (by decide) rfl dst_122 ?_
                  show Steps p.tables e below (T258.setTop (mkF m 123 #[.val (.ref r), .val (.int k1), .val (.int x2), .val (.ref st), .val (.ref nu), .val (.ref en), .val (.ref oa), .val (.int (k1 &&& (3 : Int32))), .val (.int (1 : Int32)), .val (.int tq)] [(.ref b0), (.ref b0)])) _
                  exact kQ
                show OwnDone p e below _ (T258.setTop (mkF m 123 #[.val (.ref r), .val (.int k1), .val (.int x2), .val (.ref st), .val (.ref nu), .val (.ref en), .val (.ref oa), .val (.int (k1 &&& (3 : Int32))), .val (.int (1 : Int32)), .val (.int tq)] [(.ref b0), (.ref b0)]))
                refine OwnDone.go (A := (T258.setTop (mkF m 126 #[.val (.ref r), .val (.int k1), .val (.int x2), .val (.ref st), .val (.ref nu), .val (.ref en), .val (.ref oa), .val (.int (k1 &&& (3 : Int32))), .val (.int (1 : Int32)), .val (.int tq)] []))) (fun tQ kQ => XT.acmpNo P258.here hx rfl (hb hby dst_123) rfl rfl rfl (XT.aa_ne_f rfl) kQ) ?_
                show OwnDone p e below _ (T258.setTop (mkF m 126 #[.val (.ref r), .val (.int k1), .val (.int x2), .val (.ref st), .val (.ref nu), .val (.ref en), .val (.ref oa), .val (.int (k1 &&& (3 : Int32))), .val (.int (1 : Int32)), .val (.int tq)] []))
                refine OwnDone.go (A := (T258.setTop (mkF m 131 #[.val (.ref r), .val (.int k1), .val (.int x2), .val (.ref st), .val (.ref nu), .val (.ref en), .val (.ref oa), .val (.int (k1 &&& (3 : Int32))), .val (.int (1 : Int32)), .val (.int tq)] [(.int (1 : Int32))]))) (fun tQ kQ => ?_) ?_
                · refine XS.iconst P258.here hx rfl (hb hby dst_126) ?_
                  show Steps p.tables e below (T258.setTop (mkF m 127 #[.val (.ref r), .val (.int k1), .val (.int x2), .val (.ref st), .val (.ref nu), .val (.ref en), .val (.ref oa), .val (.int (k1 &&& (3 : Int32))), .val (.int (1 : Int32)), .val (.int tq)] [(.int (1 : Int32))])) _
                  refine XS.goto P258.here hx rfl (pc0 := 127) (pc' := 131) rfl (hb hby dst_127) (by decide) (by decide) ?_
                  show Steps p.tables e below (T258.setTop (mkF m 131 #[.val (.ref r), .val (.int k1), .val (.int x2), .val (.ref st), .val (.ref nu), .val (.ref en), .val (.ref oa), .val (.int (k1 &&& (3 : Int32))), .val (.int (1 : Int32)), .val (.int tq)] [(.int (1 : Int32))])) _
                  exact kQ
                show OwnDone p e below _ (T258.setTop (mkF m 131 #[.val (.ref r), .val (.int k1), .val (.int x2), .val (.ref st), .val (.ref nu), .val (.ref en), .val (.ref oa), .val (.int (k1 &&& (3 : Int32))), .val (.int (1 : Int32)), .val (.int tq)] [(.int (1 : Int32))]))
                refine own_retN C P258 (by simp) (z' := (1 : Int32)) (by decide) dst_131 (by decide) (by decide) ?_
                refine ⟨rfl, vd, sl, ow, sz, rr, vv, ff, tt, oo, ww, (.ref b0), s1, Ob, YaR, YaV, YaF, YaT, YaO, YaW, Yst, Yen, ⟨lR, lV, lF, lT, lO, lW⟩, ?_, ?_, ?_, ?_⟩
                · exact ⟨bs.1, by have := bs.2; omega⟩
                · exact ⟨bo.1, by have := bo.2; omega⟩
                · exact I1.imp id fun ⟨q1, q2, q3, q4, q5⟩ => ⟨q1, q2, q3, q4, q5⟩
                · exact Or.inr ⟨j1, b0, f, rfl, j2, j3, Or.inr ⟨j4, j5⟩⟩
        · rw [hs4]
          show OwnDone p e below _ (T.setTop (mkF m 54 #[.val (.ref r), .val (.int k1), .val (.int x2), .val (.ref st), .val (.ref nu), .val (.ref en), .val (.ref oa), .val (.int (k1 &&& (3 : Int32))), .unset, .unset] [(.int (2 : Int32))]))
          refine OwnDone.go (A := (T.setTop (mkF m 63 #[.val (.ref r), .val (.int k1), .val (.int x2), .val (.ref st), .val (.ref nu), .val (.ref en), .val (.ref oa), .val (.int (k1 &&& (3 : Int32))), .val (.int (2 : Int32)), .unset] [(.int (4 : Int32)), (.int ((XT.ushr k1 (4 : Int32)) &&& (7 : Int32)))]))) (fun tQ kQ => ?_) ?_
          · refine XS.istore P.here hx rfl (hb hby dst_54) rfl (l' := #[.val (.ref r), .val (.int k1), .val (.int x2), .val (.ref st), .val (.ref nu), .val (.ref en), .val (.ref oa), .val (.int (k1 &&& (3 : Int32))), .val (.int (2 : Int32)), .unset]) rfl ?_
            show Steps p.tables e below (T.setTop (mkF m 56 #[.val (.ref r), .val (.int k1), .val (.int x2), .val (.ref st), .val (.ref nu), .val (.ref en), .val (.ref oa), .val (.int (k1 &&& (3 : Int32))), .val (.int (2 : Int32)), .unset] [])) _
            refine XS.iloadN P.here hx rfl (hb hby dst_56) rfl ?_
            show Steps p.tables e below (T.setTop (mkF m 57 #[.val (.ref r), .val (.int k1), .val (.int x2), .val (.ref st), .val (.ref nu), .val (.ref en), .val (.ref oa), .val (.int (k1 &&& (3 : Int32))), .val (.int (2 : Int32)), .unset] [(.int k1)])) _
            refine XS.iconst P.here hx rfl (hb hby dst_57) ?_
            show Steps p.tables e below (T.setTop (mkF m 58 #[.val (.ref r), .val (.int k1), .val (.int x2), .val (.ref st), .val (.ref nu), .val (.ref en), .val (.ref oa), .val (.int (k1 &&& (3 : Int32))), .val (.int (2 : Int32)), .unset] [(.int (4 : Int32)), (.int k1)])) _
            refine XT.iushr P.here hx rfl (hb hby dst_58) rfl ?_
            show Steps p.tables e below (T.setTop (mkF m 59 #[.val (.ref r), .val (.int k1), .val (.int x2), .val (.ref st), .val (.ref nu), .val (.ref en), .val (.ref oa), .val (.int (k1 &&& (3 : Int32))), .val (.int (2 : Int32)), .unset] [(.int (XT.ushr k1 (4 : Int32)))])) _
            refine XS.bipush P.here hx rfl (hb hby dst_59) ?_
            show Steps p.tables e below (T.setTop (mkF m 61 #[.val (.ref r), .val (.int k1), .val (.int x2), .val (.ref st), .val (.ref nu), .val (.ref en), .val (.ref oa), .val (.int (k1 &&& (3 : Int32))), .val (.int (2 : Int32)), .unset] [(.int (7 : Int32)), (.int (XT.ushr k1 (4 : Int32)))])) _
            refine XS.iand P.here hx rfl (hb hby dst_61) rfl ?_
            show Steps p.tables e below (T.setTop (mkF m 62 #[.val (.ref r), .val (.int k1), .val (.int x2), .val (.ref st), .val (.ref nu), .val (.ref en), .val (.ref oa), .val (.int (k1 &&& (3 : Int32))), .val (.int (2 : Int32)), .unset] [(.int ((XT.ushr k1 (4 : Int32)) &&& (7 : Int32)))])) _
            refine XS.iconst P.here hx rfl (hb hby dst_62) ?_
            show Steps p.tables e below (T.setTop (mkF m 63 #[.val (.ref r), .val (.int k1), .val (.int x2), .val (.ref st), .val (.ref nu), .val (.ref en), .val (.ref oa), .val (.int (k1 &&& (3 : Int32))), .val (.int (2 : Int32)), .unset] [(.int (4 : Int32)), (.int ((XT.ushr k1 (4 : Int32)) &&& (7 : Int32)))])) _
            exact kQ
          show OwnDone p e below _ (T.setTop (mkF m 63 #[.val (.ref r), .val (.int k1), .val (.int x2), .val (.ref st), .val (.ref nu), .val (.ref en), .val (.ref oa), .val (.int (k1 &&& (3 : Int32))), .val (.int (2 : Int32)), .unset] [(.int (4 : Int32)), (.int ((XT.ushr k1 (4 : Int32)) &&& (7 : Int32)))]))
          refine own_callS (y := (⟨"java/lang/Math", "min", "(II)I"⟩ : MethodName)) C P (hw _ (List.mem_of_getElem? (i := 77) rfl)) (hw _ (List.mem_of_getElem? (i := 78) rfl)) (hw _ (List.mem_of_getElem? (i := 79) rfl)) (hw _ (List.mem_of_getElem? (i := 80) rfl)) (by decide) (rmmin l Z a0 hw ((XT.ushr k1 (4 : Int32)) &&& (7 : Int32)) (4 : Int32) h0 P.old) (as := [(.int ((XT.ushr k1 (4 : Int32)) &&& (7 : Int32))), (.int (4 : Int32))]) (rest := []) pd_5 rfl rfl (wd := 0) rfl rfl dst_63 all0 (by decide) (by decide) (by decide) (by decide) (fun T259 h259 v259 P259 K259 hQ259 => ?_)
          obtain ⟨⟨tq, rfl⟩, rfl⟩ := hQ259
          show OwnDone p e below _ (T259.setTop (mkF m 66 #[.val (.ref r), .val (.int k1), .val (.int x2), .val (.ref st), .val (.ref nu), .val (.ref en), .val (.ref oa), .val (.int (k1 &&& (3 : Int32))), .val (.int (2 : Int32)), .unset] [(.int tq)]))
          refine OwnDone.go (A := (T259.setTop (mkF m 77 #[.val (.ref r), .val (.int k1), .val (.int x2), .val (.ref st), .val (.ref nu), .val (.ref en), .val (.ref oa), .val (.int (k1 &&& (3 : Int32))), .val (.int (2 : Int32)), .val (.int tq)] [(.int tq), (.int (2 : Int32)), (.ref en), (.ref nu), (.ref r)]))) (fun tQ kQ => ?_) ?_
          · refine XS.istore P259.here hx rfl (hb hby dst_66) rfl (l' := #[.val (.ref r), .val (.int k1), .val (.int x2), .val (.ref st), .val (.ref nu), .val (.ref en), .val (.ref oa), .val (.int (k1 &&& (3 : Int32))), .val (.int (2 : Int32)), .val (.int tq)]) rfl ?_
            show Steps p.tables e below (T259.setTop (mkF m 68 #[.val (.ref r), .val (.int k1), .val (.int x2), .val (.ref st), .val (.ref nu), .val (.ref en), .val (.ref oa), .val (.int (k1 &&& (3 : Int32))), .val (.int (2 : Int32)), .val (.int tq)] [])) _
            refine XS.aloadN P259.here hx rfl (hb hby dst_68) rfl rfl ?_
            show Steps p.tables e below (T259.setTop (mkF m 69 #[.val (.ref r), .val (.int k1), .val (.int x2), .val (.ref st), .val (.ref nu), .val (.ref en), .val (.ref oa), .val (.int (k1 &&& (3 : Int32))), .val (.int (2 : Int32)), .val (.int tq)] [(.ref r)])) _
            refine XS.aload P259.here hx rfl (hb hby dst_69) rfl rfl ?_
            show Steps p.tables e below (T259.setTop (mkF m 71 #[.val (.ref r), .val (.int k1), .val (.int x2), .val (.ref st), .val (.ref nu), .val (.ref en), .val (.ref oa), .val (.int (k1 &&& (3 : Int32))), .val (.int (2 : Int32)), .val (.int tq)] [(.ref nu), (.ref r)])) _
            refine XS.aload P259.here hx rfl (hb hby dst_71) rfl rfl ?_
            show Steps p.tables e below (T259.setTop (mkF m 73 #[.val (.ref r), .val (.int k1), .val (.int x2), .val (.ref st), .val (.ref nu), .val (.ref en), .val (.ref oa), .val (.int (k1 &&& (3 : Int32))), .val (.int (2 : Int32)), .val (.int tq)] [(.ref en), (.ref nu), (.ref r)])) _
            refine XS.iload P259.here hx rfl (hb hby dst_73) rfl ?_
            show Steps p.tables e below (T259.setTop (mkF m 75 #[.val (.ref r), .val (.int k1), .val (.int x2), .val (.ref st), .val (.ref nu), .val (.ref en), .val (.ref oa), .val (.int (k1 &&& (3 : Int32))), .val (.int (2 : Int32)), .val (.int tq)] [(.int (2 : Int32)), (.ref en), (.ref nu), (.ref r)])) _
            refine XS.iload P259.here hx rfl (hb hby dst_75) rfl ?_
            show Steps p.tables e below (T259.setTop (mkF m 77 #[.val (.ref r), .val (.int k1), .val (.int x2), .val (.ref st), .val (.ref nu), .val (.ref en), .val (.ref oa), .val (.int (k1 &&& (3 : Int32))), .val (.int (2 : Int32)), .val (.int tq)] [(.int tq), (.int (2 : Int32)), (.ref en), (.ref nu), (.ref r)])) _
            exact kQ
          show OwnDone p e below _ (T259.setTop (mkF m 77 #[.val (.ref r), .val (.int k1), .val (.int x2), .val (.ref st), .val (.ref nu), .val (.ref en), .val (.ref oa), .val (.int (k1 &&& (3 : Int32))), .val (.int (2 : Int32)), .val (.int tq)] [(.int tq), (.int (2 : Int32)), (.ref en), (.ref nu), (.ref r)]))
          by_cases hst : (2 : Int32) < tq
          · rcases I0 with I0 | I0
            · obtain ⟨j1, rfl⟩ := I0
              show OwnDone p e below _ (T259.setTop (mkF m 77 #[.val (.ref r), .val (.int k1), .val (.int x2), .val (.ref st), .val (.ref nu), .val (.ref en), .val (.ref oa), .val (.int (k1 &&& (3 : Int32))), .val (.int (2 : Int32)), .val (.int tq)] [(.int tq), (.int (2 : Int32)), (.ref en), (.ref nu), (.ref r)]))
              refine own_callV (y := (⟨"com/example/tidx/tidx/index/Run", "add", "([I[[Ljava/lang/Object;II)V"⟩ : MethodName)) (z := (⟨"com/example/tidx/tidx/index/Run", "add", "([I[[Ljava/lang/Object;II)V"⟩ : MethodName)) (CC := "com/example/tidx/tidx/index/Run") C P259 Ob.1 (hw _ (List.mem_of_getElem? (i := 81) rfl)) (hw _ (List.mem_of_getElem? (i := 82) rfl)) (hw _ (List.mem_of_getElem? (i := 84) rfl)) (hw _ (List.mem_of_getElem? (i := 84) rfl)) (hw _ (List.mem_of_getElem? (i := 83) rfl)) (hw _ (List.mem_of_getElem? (i := 8) rfl)) (hw _ (List.mem_of_getElem? (i := 85) rfl)) (by decide) (rmal l Z a0 hw r nu en (2 : Int32) tq aR aV aF aT aO aW kR kV kF kT vd sl ow sz rr vv ff tt h0 P259.old g_r g_aR g_aV g_aF g_aT hst Ob YaR lR YaV lV YaF lF YaT lT (by omega) (by omega) (by omega) (by omega) s1_ s2_ In Ie VR VV) (as := [(.ref nu), (.ref en), (.int (2 : Int32)), (.int tq)]) (rest := []) pd_0 rfl rfl (wd := 0) rfl rfl dst_77 (allS (Or.inl (List.mem_of_getElem? (i := 1) rfl)) (allS (Or.inl (List.mem_of_getElem? (i := 2) rfl)) (allS (Or.inl (List.mem_of_getElem? (i := 3) rfl)) (allS (Or.inl (List.mem_of_getElem? (i := 4) rfl)) (allS (Or.inl (List.mem_of_getElem? (i := 5) rfl)) all0))))) (by decide) (by decide) (by decide) (by decide) (fun T260 h260 v260 P260 K260 hQ260 => ?_)
              obtain ⟨rfl, Ob260, YaR260, YaV260, YaF260, YaT260⟩ := hQ260
              have I261_nu := own_insK In K260
              have I262_en := own_insK Ie K260
              have I263_oa := own_insK Ia K260
              have I264_oa := own_insK Ib K260
              have I265_e0 := own_insK Ie0 K260
              have I266_e1 := own_insK Ie1 K260
              have I267_e2 := own_insK Ie2 K260
              have I268_e3 := own_insK Ie3 K260
              have Y269_aO := YaO.keep K260 (ninS (own_neL (by omega)) (ninS (own_neL (by omega)) (ninS (own_neL (by omega)) (ninS (own_neL (by omega)) (ninS (own_neL (by omega)) nin0)))))
              have Y270_aW := YaW.keep K260 (ninS (own_neL (by omega)) (ninS (own_neL (by omega)) (ninS (own_neL (by omega)) (ninS (own_neL (by omega)) (ninS (own_neL (by omega)) nin0)))))
              have Y271_st := Yst.keep K260 (ninS (own_neL (by omega)) (ninS (own_neL (by omega)) (ninS (own_neL (by omega)) (ninS (own_neL (by omega)) (ninS (own_neL (by omega)) nin0)))))
              have Y272_en := Yen.keep K260 (ninS (own_neL (by omega)) (ninS (own_neL (by omega)) (ninS (own_neL (by omega)) (ninS (own_neL (by omega)) (ninS (own_neL (by omega)) nin0)))))
              have laR260 : (rr.set (sl).toNatClampNeg (.ref nu)).length = 4 := by rw [List.length_set]; exact lR
              have laV260 : (vv.set (sl).toNatClampNeg (.ref en)).length = 4 := by rw [List.length_set]; exact lV
              have laF260 : (ff.set (sl).toNatClampNeg (.int (2 : Int32))).length = 4 := by rw [List.length_set]; exact lF
              have laT260 : (tt.set (sl).toNatClampNeg (.int tq)).length = 4 := by rw [List.length_set]; exact lT
              show OwnDone p e below _ (T260.setTop (mkF m 80 #[.val (.ref r), .val (.int k1), .val (.int x2), .val (.ref st), .val (.ref nu), .val (.ref en), .val (.ref oa), .val (.int (k1 &&& (3 : Int32))), .val (.int (2 : Int32)), .val (.int tq)] []))
              refine OwnDone.go (A := (T260.setTop (mkF m 84 #[.val (.ref r), .val (.int k1), .val (.int x2), .val (.ref st), .val (.ref nu), .val (.ref en), .val (.ref oa), .val (.int (k1 &&& (3 : Int32))), .val (.int (2 : Int32)), .val (.int tq)] [(.int tq), (.int (2 : Int32))]))) (fun tQ kQ => ?_) ?_
              · refine XS.iload P260.here hx rfl (hb hby dst_80) rfl ?_
                show Steps p.tables e below (T260.setTop (mkF m 82 #[.val (.ref r), .val (.int k1), .val (.int x2), .val (.ref st), .val (.ref nu), .val (.ref en), .val (.ref oa), .val (.int (k1 &&& (3 : Int32))), .val (.int (2 : Int32)), .val (.int tq)] [(.int (2 : Int32))])) _
                refine XS.iload P260.here hx rfl (hb hby dst_82) rfl ?_
                show Steps p.tables e below (T260.setTop (mkF m 84 #[.val (.ref r), .val (.int k1), .val (.int x2), .val (.ref st), .val (.ref nu), .val (.ref en), .val (.ref oa), .val (.int (k1 &&& (3 : Int32))), .val (.int (2 : Int32)), .val (.int tq)] [(.int tq), (.int (2 : Int32))])) _
                exact kQ
              show OwnDone p e below _ (T260.setTop (mkF m 84 #[.val (.ref r), .val (.int k1), .val (.int x2), .val (.ref st), .val (.ref nu), .val (.ref en), .val (.ref oa), .val (.int (k1 &&& (3 : Int32))), .val (.int (2 : Int32)), .val (.int tq)] [(.int tq), (.int (2 : Int32))]))
              refine OwnDone.go (A := (T260.setTop (mkF m 87 #[.val (.ref r), .val (.int k1), .val (.int x2), .val (.ref st), .val (.ref nu), .val (.ref en), .val (.ref oa), .val (.int (k1 &&& (3 : Int32))), .val (.int (2 : Int32)), .val (.int tq)] []))) (fun tQ kQ => XS.icmpNo P260.here hx rfl (hb hby dst_84) rfl (XT.ii_ge_f hst) kQ) ?_
              show OwnDone p e below _ (T260.setTop (mkF m 87 #[.val (.ref r), .val (.int k1), .val (.int x2), .val (.ref st), .val (.ref nu), .val (.ref en), .val (.ref oa), .val (.int (k1 &&& (3 : Int32))), .val (.int (2 : Int32)), .val (.int tq)] []))
              refine OwnDone.go (A := (T260.setTop (mkF m 90 #[.val (.ref r), .val (.int k1), .val (.int x2), .val (.ref st), .val (.ref nu), .val (.ref en), .val (.ref oa), .val (.int (k1 &&& (3 : Int32))), .val (.int (2 : Int32)), .val (.int tq)] [.null]))) (fun tQ kQ => ?_) ?_
              · refine XS.aloadN P260.here hx rfl (hb hby dst_87) rfl rfl ?_
                show Steps p.tables e below (T260.setTop (mkF m 88 #[.val (.ref r), .val (.int k1), .val (.int x2), .val (.ref st), .val (.ref nu), .val (.ref en), .val (.ref oa), .val (.int (k1 &&& (3 : Int32))), .val (.int (2 : Int32)), .val (.int tq)] [(.ref st)])) _
                refine XS.iconst P260.here hx rfl (hb hby dst_88) ?_
                show Steps p.tables e below (T260.setTop (mkF m 89 #[.val (.ref r), .val (.int k1), .val (.int x2), .val (.ref st), .val (.ref nu), .val (.ref en), .val (.ref oa), .val (.int (k1 &&& (3 : Int32))), .val (.int (2 : Int32)), .val (.int tq)] [(.int (0 : Int32)), (.ref st)])) _
                refine own_aaload C P260 Y271_st rfl (by decide) rfl dst_89 ?_
                show Steps p.tables e below (T260.setTop (mkF m 90 #[.val (.ref r), .val (.int k1), .val (.int x2), .val (.ref st), .val (.ref nu), .val (.ref en), .val (.ref oa), .val (.int (k1 &&& (3 : Int32))), .val (.int (2 : Int32)), .val (.int tq)] [.null])) _
                exact kQ
              show OwnDone p e below _ (T260.setTop (mkF m 90 #[.val (.ref r), .val (.int k1), .val (.int x2), .val (.ref st), .val (.ref nu), .val (.ref en), .val (.ref oa), .val (.int (k1 &&& (3 : Int32))), .val (.int (2 : Int32)), .val (.int tq)] [.null]))
              refine OwnDone.go (A := (T260.setTop (mkF m 93 #[.val (.ref r), .val (.int k1), .val (.int x2), .val (.ref st), .val (.ref nu), .val (.ref en), .val (.ref oa), .val (.int (k1 &&& (3 : Int32))), .val (.int (2 : Int32)), .val (.int tq)] []))) (fun tQ kQ => XT.ifnonnullNo P260.here hx rfl (hb hby dst_90) rfl kQ) ?_
              show OwnDone p e below _ (T260.setTop (mkF m 93 #[.val (.ref r), .val (.int k1), .val (.int x2), .val (.ref st), .val (.ref nu), .val (.ref en), .val (.ref oa), .val (.int (k1 &&& (3 : Int32))), .val (.int (2 : Int32)), .val (.int tq)] []))
              refine OwnDone.go (A := (T260.setTop (mkF m 100 #[.val (.ref r), .val (.int k1), .val (.int x2), .val (.ref st), .val (.ref nu), .val (.ref en), .val (.ref oa), .val (.int (k1 &&& (3 : Int32))), .val (.int (2 : Int32)), .val (.int tq)] [(.ref e2), (.int (0 : Int32)), (.ref st)]))) (fun tQ kQ => ?_) ?_
              · refine XS.aloadN P260.here hx rfl (hb hby dst_93) rfl rfl ?_
                show Steps p.tables e below (T260.setTop (mkF m 94 #[.val (.ref r), .val (.int k1), .val (.int x2), .val (.ref st), .val (.ref nu), .val (.ref en), .val (.ref oa), .val (.int (k1 &&& (3 : Int32))), .val (.int (2 : Int32)), .val (.int tq)] [(.ref st)])) _
                refine XS.iconst P260.here hx rfl (hb hby dst_94) ?_
                show Steps p.tables e below (T260.setTop (mkF m 95 #[.val (.ref r), .val (.int k1), .val (.int x2), .val (.ref st), .val (.ref nu), .val (.ref en), .val (.ref oa), .val (.int (k1 &&& (3 : Int32))), .val (.int (2 : Int32)), .val (.int tq)] [(.int (0 : Int32)), (.ref st)])) _
                refine XS.aload P260.here hx rfl (hb hby dst_95) rfl rfl ?_
                show Steps p.tables e below (T260.setTop (mkF m 97 #[.val (.ref r), .val (.int k1), .val (.int x2), .val (.ref st), .val (.ref nu), .val (.ref en), .val (.ref oa), .val (.int (k1 &&& (3 : Int32))), .val (.int (2 : Int32)), .val (.int tq)] [(.ref en), (.int (0 : Int32)), (.ref st)])) _
                refine XS.iload P260.here hx rfl (hb hby dst_97) rfl ?_
                show Steps p.tables e below (T260.setTop (mkF m 99 #[.val (.ref r), .val (.int k1), .val (.int x2), .val (.ref st), .val (.ref nu), .val (.ref en), .val (.ref oa), .val (.int (k1 &&& (3 : Int32))), .val (.int (2 : Int32)), .val (.int tq)] [(.int (2 : Int32)), (.ref en), (.int (0 : Int32)), (.ref st)])) _
                refine own_aaload C P260 Y272_en rfl (by decide) rfl dst_99 ?_
                show Steps p.tables e below (T260.setTop (mkF m 100 #[.val (.ref r), .val (.int k1), .val (.int x2), .val (.ref st), .val (.ref nu), .val (.ref en), .val (.ref oa), .val (.int (k1 &&& (3 : Int32))), .val (.int (2 : Int32)), .val (.int tq)] [(.ref e2), (.int (0 : Int32)), (.ref st)])) _
                exact kQ
              show OwnDone p e below _ (T260.setTop (mkF m 100 #[.val (.ref r), .val (.int k1), .val (.int x2), .val (.ref st), .val (.ref nu), .val (.ref en), .val (.ref oa), .val (.int (k1 &&& (3 : Int32))), .val (.int (2 : Int32)), .val (.int tq)] [(.ref e2), (.int (0 : Int32)), (.ref st)]))
              refine own_aastore C P260 Y271_st rfl (by decide) (show ((0 : Int32) : Int32).toNatClampNeg < 2 from by decide) (Y271_st.sto VS I267_e2) (Or.inl (List.mem_of_getElem? (i := 0) rfl)) dst_100 (vs' := [(.ref e2), s1]) rfl (fun T273 h273 P273 K273 Y273 => ?_)
              have I274_nu := own_insK I261_nu K273
              have I275_en := own_insK I262_en K273
              have I276_oa := own_insK I263_oa K273
              have I277_oa := own_insK I264_oa K273
              have I278_e0 := own_insK I265_e0 K273
              have I279_e1 := own_insK I266_e1 K273
              have I280_e2 := own_insK I267_e2 K273
              have I281_e3 := own_insK I268_e3 K273
              have O282_r := Ob260.keep K273 (ninS (own_neL (by omega)) nin0)
              have Y283_aR := YaR260.keep K273 (ninS (own_neL (by omega)) nin0)
              have Y284_aV := YaV260.keep K273 (ninS (own_neL (by omega)) nin0)
              have Y285_aF := YaF260.keep K273 (ninS (own_neL (by omega)) nin0)
              have Y286_aT := YaT260.keep K273 (ninS (own_neL (by omega)) nin0)
              have Y287_aO := Y269_aO.keep K273 (ninS (own_neL (by omega)) nin0)
              have Y288_aW := Y270_aW.keep K273 (ninS (own_neL (by omega)) nin0)
              have Y289_en := Y272_en.keep K273 (ninS (own_neL (by omega)) nin0)
              show OwnDone p e below _ (T273.setTop (mkF m 101 #[.val (.ref r), .val (.int k1), .val (.int x2), .val (.ref st), .val (.ref nu), .val (.ref en), .val (.ref oa), .val (.int (k1 &&& (3 : Int32))), .val (.int (2 : Int32)), .val (.int tq)] []))
              refine OwnDone.go (A := (T273.setTop (mkF m 116 #[.val (.ref r), .val (.int k1), .val (.int x2), .val (.ref st), .val (.ref nu), .val (.ref en), .val (.ref oa), .val (.int (k1 &&& (3 : Int32))), .val (.int (2 : Int32)), .val (.int tq)] []))) (fun tQ kQ => ?_) ?_
              · refine XS.goto P273.here hx rfl (pc0 := 101) (pc' := 116) rfl (hb hby dst_101) (by decide) (by decide) ?_
                show Steps p.tables e below (T273.setTop (mkF m 116 #[.val (.ref r), .val (.int k1), .val (.int x2), .val (.ref st), .val (.ref nu), .val (.ref en), .val (.ref oa), .val (.int (k1 &&& (3 : Int32))), .val (.int (2 : Int32)), .val (.int tq)] [])) _
                exact kQ
              show OwnDone p e below _ (T273.setTop (mkF m 116 #[.val (.ref r), .val (.int k1), .val (.int x2), .val (.ref st), .val (.ref nu), .val (.ref en), .val (.ref oa), .val (.int (k1 &&& (3 : Int32))), .val (.int (2 : Int32)), .val (.int tq)] []))
              refine OwnDone.go (A := (T273.setTop (mkF m 117 #[.val (.ref r), .val (.int k1), .val (.int x2), .val (.ref st), .val (.ref nu), .val (.ref en), .val (.ref oa), .val (.int (k1 &&& (3 : Int32))), .val (.int (2 : Int32)), .val (.int tq)] [(.ref r)]))) (fun tQ kQ => ?_) ?_
              · refine XS.aloadN P273.here hx rfl (hb hby dst_116) rfl rfl ?_
                show Steps p.tables e below (T273.setTop (mkF m 117 #[.val (.ref r), .val (.int k1), .val (.int x2), .val (.ref st), .val (.ref nu), .val (.ref en), .val (.ref oa), .val (.int (k1 &&& (3 : Int32))), .val (.int (2 : Int32)), .val (.int tq)] [(.ref r)])) _
                exact kQ
              show OwnDone p e below _ (T273.setTop (mkF m 117 #[.val (.ref r), .val (.int k1), .val (.int x2), .val (.ref st), .val (.ref nu), .val (.ref en), .val (.ref oa), .val (.int (k1 &&& (3 : Int32))), .val (.int (2 : Int32)), .val (.int tq)] [(.ref r)]))
              refine own_callV (y := (⟨"com/example/tidx/tidx/index/Run", "first", "()[Ljava/lang/Object;"⟩ : MethodName)) (z := (⟨"com/example/tidx/tidx/index/Run", "first", "()[Ljava/lang/Object;"⟩ : MethodName)) (CC := "com/example/tidx/tidx/index/Run") C P273 O282_r.1 (hw _ (List.mem_of_getElem? (i := 34) rfl)) (hw _ (List.mem_of_getElem? (i := 35) rfl)) (hw _ (List.mem_of_getElem? (i := 37) rfl)) (hw _ (List.mem_of_getElem? (i := 37) rfl)) (hw _ (List.mem_of_getElem? (i := 36) rfl)) (hw _ (List.mem_of_getElem? (i := 8) rfl)) (hw _ (List.mem_of_getElem? (i := 38) rfl)) (by decide) (rmfb l Z a0 hw r aR aV aF aT aO aW kV kF kE vd (sl + (1 : Int32)) ow (sz + (tq - (2 : Int32))) (vv.set (sl).toNatClampNeg (.ref en)) (ff.set (sl).toNatClampNeg (.int (2 : Int32))) [(.ref e0), (.ref e1), (.ref e2), (.ref e3)] en e2 (2 : Int32) h273 P273.old O282_r Y284_aV Y285_aF Y289_en (own_incNe bs (by omega)) (by rw [j1]; exact List.getElem?_set_self (by rw [lV]; decide)) (by rw [j1]; exact List.getElem?_set_self (by rw [lF]; decide)) (by decide) rfl) (as := []) (rest := []) pd_4 rfl rfl (wd := 0) rfl rfl dst_117 all0 (by decide) (by decide) (by decide) (by decide) (fun T290 h290 v290 P290 K290 hQ290 => ?_)
              obtain ⟨rfl, rfl⟩ := hQ290
              show OwnDone p e below _ (T290.setTop (mkF m 120 #[.val (.ref r), .val (.int k1), .val (.int x2), .val (.ref st), .val (.ref nu), .val (.ref en), .val (.ref oa), .val (.int (k1 &&& (3 : Int32))), .val (.int (2 : Int32)), .val (.int tq)] [(.ref e2)]))
              refine OwnDone.go (A := (T290.setTop (mkF m 123 #[.val (.ref r), .val (.int k1), .val (.int x2), .val (.ref st), .val (.ref nu), .val (.ref en), .val (.ref oa), .val (.int (k1 &&& (3 : Int32))), .val (.int (2 : Int32)), .val (.int tq)] [(.ref e2), (.ref e2)]))) (fun tQ kQ => ?_) ?_
              · refine XS.aloadN P290.here hx rfl (hb hby dst_120) rfl rfl ?_
                show Steps p.tables e below (T290.setTop (mkF m 121 #[.val (.ref r), .val (.int k1), .val (.int x2), .val (.ref st), .val (.ref nu), .val (.ref en), .val (.ref oa), .val (.int (k1 &&& (3 : Int32))), .val (.int (2 : Int32)), .val (.int tq)] [(.ref st), (.ref e2)])) _
                refine XS.iconst P290.here hx rfl (hb hby dst_121) ?_
                show Steps p.tables e below (T290.setTop (mkF m 122 #[.val (.ref r), .val (.int k1), .val (.int x2), .val (.ref st), .val (.ref nu), .val (.ref en), .val (.ref oa), .val (.int (k1 &&& (3 : Int32))), .val (.int (2 : Int32)), .val (.int tq)] [(.int (0 : Int32)), (.ref st), (.ref e2)])) _
                refine own_aaload C P290 Y273 rfl (by decide) rfl dst_122 ?_
                show Steps p.tables e below (T290.setTop (mkF m 123 #[.val (.ref r), .val (.int k1), .val (.int x2), .val (.ref st), .val (.ref nu), .val (.ref en), .val (.ref oa), .val (.int (k1 &&& (3 : Int32))), .val (.int (2 : Int32)), .val (.int tq)] [(.ref e2), (.ref e2)])) _
                exact kQ
              show OwnDone p e below _ (T290.setTop (mkF m 123 #[.val (.ref r), .val (.int k1), .val (.int x2), .val (.ref st), .val (.ref nu), .val (.ref en), .val (.ref oa), .val (.int (k1 &&& (3 : Int32))), .val (.int (2 : Int32)), .val (.int tq)] [(.ref e2), (.ref e2)]))
              refine OwnDone.go (A := (T290.setTop (mkF m 126 #[.val (.ref r), .val (.int k1), .val (.int x2), .val (.ref st), .val (.ref nu), .val (.ref en), .val (.ref oa), .val (.int (k1 &&& (3 : Int32))), .val (.int (2 : Int32)), .val (.int tq)] []))) (fun tQ kQ => XT.acmpNo P290.here hx rfl (hb hby dst_123) rfl rfl rfl (XT.aa_ne_f rfl) kQ) ?_
              show OwnDone p e below _ (T290.setTop (mkF m 126 #[.val (.ref r), .val (.int k1), .val (.int x2), .val (.ref st), .val (.ref nu), .val (.ref en), .val (.ref oa), .val (.int (k1 &&& (3 : Int32))), .val (.int (2 : Int32)), .val (.int tq)] []))
              refine OwnDone.go (A := (T290.setTop (mkF m 131 #[.val (.ref r), .val (.int k1), .val (.int x2), .val (.ref st), .val (.ref nu), .val (.ref en), .val (.ref oa), .val (.int (k1 &&& (3 : Int32))), .val (.int (2 : Int32)), .val (.int tq)] [(.int (1 : Int32))]))) (fun tQ kQ => ?_) ?_
              · refine XS.iconst P290.here hx rfl (hb hby dst_126) ?_
                show Steps p.tables e below (T290.setTop (mkF m 127 #[.val (.ref r), .val (.int k1), .val (.int x2), .val (.ref st), .val (.ref nu), .val (.ref en), .val (.ref oa), .val (.int (k1 &&& (3 : Int32))), .val (.int (2 : Int32)), .val (.int tq)] [(.int (1 : Int32))])) _
                refine XS.goto P290.here hx rfl (pc0 := 127) (pc' := 131) rfl (hb hby dst_127) (by decide) (by decide) ?_
                show Steps p.tables e below (T290.setTop (mkF m 131 #[.val (.ref r), .val (.int k1), .val (.int x2), .val (.ref st), .val (.ref nu), .val (.ref en), .val (.ref oa), .val (.int (k1 &&& (3 : Int32))), .val (.int (2 : Int32)), .val (.int tq)] [(.int (1 : Int32))])) _
                exact kQ
              show OwnDone p e below _ (T290.setTop (mkF m 131 #[.val (.ref r), .val (.int k1), .val (.int x2), .val (.ref st), .val (.ref nu), .val (.ref en), .val (.ref oa), .val (.int (k1 &&& (3 : Int32))), .val (.int (2 : Int32)), .val (.int tq)] [(.int (1 : Int32))]))
              refine own_retN C P290 (by simp) (z' := (1 : Int32)) (by decide) dst_131 (by decide) (by decide) ?_
              refine ⟨rfl, vd, (sl + (1 : Int32)), ow, (sz + (tq - (2 : Int32))), (rr.set (sl).toNatClampNeg (.ref nu)), (vv.set (sl).toNatClampNeg (.ref en)), (ff.set (sl).toNatClampNeg (.int (2 : Int32))), (tt.set (sl).toNatClampNeg (.int tq)), oo, ww, (.ref e2), s1, O282_r, Y283_aR, Y284_aV, Y285_aF, Y286_aT, Y287_aO, Y288_aW, Y273, Y289_en, ⟨laR260, laV260, laF260, laT260, lO, lW⟩, ?_, ?_, ?_, ?_⟩
              · exact own_inc bs (by omega)
              · exact ⟨bo.1, by have := bo.2; omega⟩
              · exact I1.imp id fun ⟨q1, q2, q3, q4, q5⟩ => ⟨q1, q2, q3, q4, (own_insK (own_insK q5 K260) K273)⟩
              · exact Or.inr ⟨own_incNe bs (by omega), e2, (2 : Int32), rfl, (by rw [j1]; exact List.getElem?_set_self (by rw [lF]; decide)), by decide, Or.inr ⟨(by rw [j1]; exact List.getElem?_set_self (by rw [lV]; decide)), rfl⟩⟩
            · obtain ⟨j1, b0, f, rfl, j2, j3, j4⟩ := I0
              show OwnDone p e below _ (T259.setTop (mkF m 77 #[.val (.ref r), .val (.int k1), .val (.int x2), .val (.ref st), .val (.ref nu), .val (.ref en), .val (.ref oa), .val (.int (k1 &&& (3 : Int32))), .val (.int (2 : Int32)), .val (.int tq)] [(.int tq), (.int (2 : Int32)), (.ref en), (.ref nu), (.ref r)]))
              refine own_callV (y := (⟨"com/example/tidx/tidx/index/Run", "add", "([I[[Ljava/lang/Object;II)V"⟩ : MethodName)) (z := (⟨"com/example/tidx/tidx/index/Run", "add", "([I[[Ljava/lang/Object;II)V"⟩ : MethodName)) (CC := "com/example/tidx/tidx/index/Run") C P259 Ob.1 (hw _ (List.mem_of_getElem? (i := 81) rfl)) (hw _ (List.mem_of_getElem? (i := 82) rfl)) (hw _ (List.mem_of_getElem? (i := 84) rfl)) (hw _ (List.mem_of_getElem? (i := 84) rfl)) (hw _ (List.mem_of_getElem? (i := 83) rfl)) (hw _ (List.mem_of_getElem? (i := 8) rfl)) (hw _ (List.mem_of_getElem? (i := 85) rfl)) (by decide) (rmal l Z a0 hw r nu en (2 : Int32) tq aR aV aF aT aO aW kR kV kF kT vd sl ow sz rr vv ff tt h0 P259.old g_r g_aR g_aV g_aF g_aT hst Ob YaR lR YaV lV YaF lF YaT lT (by omega) (by omega) (by omega) (by omega) s1_ s2_ In Ie VR VV) (as := [(.ref nu), (.ref en), (.int (2 : Int32)), (.int tq)]) (rest := []) pd_0 rfl rfl (wd := 0) rfl rfl dst_77 (allS (Or.inl (List.mem_of_getElem? (i := 1) rfl)) (allS (Or.inl (List.mem_of_getElem? (i := 2) rfl)) (allS (Or.inl (List.mem_of_getElem? (i := 3) rfl)) (allS (Or.inl (List.mem_of_getElem? (i := 4) rfl)) (allS (Or.inl (List.mem_of_getElem? (i := 5) rfl)) all0))))) (by decide) (by decide) (by decide) (by decide) (fun T291 h291 v291 P291 K291 hQ291 => ?_)
              obtain ⟨rfl, Ob291, YaR291, YaV291, YaF291, YaT291⟩ := hQ291
              have I292_nu := own_insK In K291
              have I293_en := own_insK Ie K291
              have I294_oa := own_insK Ia K291
              have I295_oa := own_insK Ib K291
              have I296_e0 := own_insK Ie0 K291
              have I297_e1 := own_insK Ie1 K291
              have I298_e2 := own_insK Ie2 K291
              have I299_e3 := own_insK Ie3 K291
              have Y300_aO := YaO.keep K291 (ninS (own_neL (by omega)) (ninS (own_neL (by omega)) (ninS (own_neL (by omega)) (ninS (own_neL (by omega)) (ninS (own_neL (by omega)) nin0)))))
              have Y301_aW := YaW.keep K291 (ninS (own_neL (by omega)) (ninS (own_neL (by omega)) (ninS (own_neL (by omega)) (ninS (own_neL (by omega)) (ninS (own_neL (by omega)) nin0)))))
              have Y302_st := Yst.keep K291 (ninS (own_neL (by omega)) (ninS (own_neL (by omega)) (ninS (own_neL (by omega)) (ninS (own_neL (by omega)) (ninS (own_neL (by omega)) nin0)))))
              have Y303_en := Yen.keep K291 (ninS (own_neL (by omega)) (ninS (own_neL (by omega)) (ninS (own_neL (by omega)) (ninS (own_neL (by omega)) (ninS (own_neL (by omega)) nin0)))))
              have laR291 : (rr.set (sl).toNatClampNeg (.ref nu)).length = 4 := by rw [List.length_set]; exact lR
              have laV291 : (vv.set (sl).toNatClampNeg (.ref en)).length = 4 := by rw [List.length_set]; exact lV
              have laF291 : (ff.set (sl).toNatClampNeg (.int (2 : Int32))).length = 4 := by rw [List.length_set]; exact lF
              have laT291 : (tt.set (sl).toNatClampNeg (.int tq)).length = 4 := by rw [List.length_set]; exact lT
              show OwnDone p e below _ (T291.setTop (mkF m 80 #[.val (.ref r), .val (.int k1), .val (.int x2), .val (.ref st), .val (.ref nu), .val (.ref en), .val (.ref oa), .val (.int (k1 &&& (3 : Int32))), .val (.int (2 : Int32)), .val (.int tq)] []))
              refine OwnDone.go (A := (T291.setTop (mkF m 84 #[.val (.ref r), .val (.int k1), .val (.int x2), .val (.ref st), .val (.ref nu), .val (.ref en), .val (.ref oa), .val (.int (k1 &&& (3 : Int32))), .val (.int (2 : Int32)), .val (.int tq)] [(.int tq), (.int (2 : Int32))]))) (fun tQ kQ => ?_) ?_
              · refine XS.iload P291.here hx rfl (hb hby dst_80) rfl ?_
                show Steps p.tables e below (T291.setTop (mkF m 82 #[.val (.ref r), .val (.int k1), .val (.int x2), .val (.ref st), .val (.ref nu), .val (.ref en), .val (.ref oa), .val (.int (k1 &&& (3 : Int32))), .val (.int (2 : Int32)), .val (.int tq)] [(.int (2 : Int32))])) _
                refine XS.iload P291.here hx rfl (hb hby dst_82) rfl ?_
                show Steps p.tables e below (T291.setTop (mkF m 84 #[.val (.ref r), .val (.int k1), .val (.int x2), .val (.ref st), .val (.ref nu), .val (.ref en), .val (.ref oa), .val (.int (k1 &&& (3 : Int32))), .val (.int (2 : Int32)), .val (.int tq)] [(.int tq), (.int (2 : Int32))])) _
                exact kQ
              show OwnDone p e below _ (T291.setTop (mkF m 84 #[.val (.ref r), .val (.int k1), .val (.int x2), .val (.ref st), .val (.ref nu), .val (.ref en), .val (.ref oa), .val (.int (k1 &&& (3 : Int32))), .val (.int (2 : Int32)), .val (.int tq)] [(.int tq), (.int (2 : Int32))]))
              refine OwnDone.go (A := (T291.setTop (mkF m 87 #[.val (.ref r), .val (.int k1), .val (.int x2), .val (.ref st), .val (.ref nu), .val (.ref en), .val (.ref oa), .val (.int (k1 &&& (3 : Int32))), .val (.int (2 : Int32)), .val (.int tq)] []))) (fun tQ kQ => XS.icmpNo P291.here hx rfl (hb hby dst_84) rfl (XT.ii_ge_f hst) kQ) ?_
              show OwnDone p e below _ (T291.setTop (mkF m 87 #[.val (.ref r), .val (.int k1), .val (.int x2), .val (.ref st), .val (.ref nu), .val (.ref en), .val (.ref oa), .val (.int (k1 &&& (3 : Int32))), .val (.int (2 : Int32)), .val (.int tq)] []))
              refine OwnDone.go (A := (T291.setTop (mkF m 90 #[.val (.ref r), .val (.int k1), .val (.int x2), .val (.ref st), .val (.ref nu), .val (.ref en), .val (.ref oa), .val (.int (k1 &&& (3 : Int32))), .val (.int (2 : Int32)), .val (.int tq)] [(.ref b0)]))) (fun tQ kQ => ?_) ?_
              · refine XS.aloadN P291.here hx rfl (hb hby dst_87) rfl rfl ?_
                show Steps p.tables e below (T291.setTop (mkF m 88 #[.val (.ref r), .val (.int k1), .val (.int x2), .val (.ref st), .val (.ref nu), .val (.ref en), .val (.ref oa), .val (.int (k1 &&& (3 : Int32))), .val (.int (2 : Int32)), .val (.int tq)] [(.ref st)])) _
                refine XS.iconst P291.here hx rfl (hb hby dst_88) ?_
                show Steps p.tables e below (T291.setTop (mkF m 89 #[.val (.ref r), .val (.int k1), .val (.int x2), .val (.ref st), .val (.ref nu), .val (.ref en), .val (.ref oa), .val (.int (k1 &&& (3 : Int32))), .val (.int (2 : Int32)), .val (.int tq)] [(.int (0 : Int32)), (.ref st)])) _
                refine own_aaload C P291 Y302_st rfl (by decide) rfl dst_89 ?_
                show Steps p.tables e below (T291.setTop (mkF m 90 #[.val (.ref r), .val (.int k1), .val (.int x2), .val (.ref st), .val (.ref nu), .val (.ref en), .val (.ref oa), .val (.int (k1 &&& (3 : Int32))), .val (.int (2 : Int32)), .val (.int tq)] [(.ref b0)])) _
                exact kQ
              show OwnDone p e below _ (T291.setTop (mkF m 90 #[.val (.ref r), .val (.int k1), .val (.int x2), .val (.ref st), .val (.ref nu), .val (.ref en), .val (.ref oa), .val (.int (k1 &&& (3 : Int32))), .val (.int (2 : Int32)), .val (.int tq)] [(.ref b0)]))
              refine OwnDone.go (A := (T291.setTop (mkF m 101 #[.val (.ref r), .val (.int k1), .val (.int x2), .val (.ref st), .val (.ref nu), .val (.ref en), .val (.ref oa), .val (.int (k1 &&& (3 : Int32))), .val (.int (2 : Int32)), .val (.int tq)] []))) (fun tQ kQ => XT.ifnonnullYes P291.here hx rfl (pc0 := 90) (pc' := 101) rfl (hb hby dst_90) rfl (by decide) (by decide) kQ) ?_
              show OwnDone p e below _ (T291.setTop (mkF m 101 #[.val (.ref r), .val (.int k1), .val (.int x2), .val (.ref st), .val (.ref nu), .val (.ref en), .val (.ref oa), .val (.int (k1 &&& (3 : Int32))), .val (.int (2 : Int32)), .val (.int tq)] []))
              refine OwnDone.go (A := (T291.setTop (mkF m 116 #[.val (.ref r), .val (.int k1), .val (.int x2), .val (.ref st), .val (.ref nu), .val (.ref en), .val (.ref oa), .val (.int (k1 &&& (3 : Int32))), .val (.int (2 : Int32)), .val (.int tq)] []))) (fun tQ kQ => ?_) ?_
              · refine XS.goto P291.here hx rfl (pc0 := 101) (pc' := 116) rfl (hb hby dst_101) (by decide) (by decide) ?_
                show Steps p.tables e below (T291.setTop (mkF m 116 #[.val (.ref r), .val (.int k1), .val (.int x2), .val (.ref st), .val (.ref nu), .val (.ref en), .val (.ref oa), .val (.int (k1 &&& (3 : Int32))), .val (.int (2 : Int32)), .val (.int tq)] [])) _
                exact kQ
              show OwnDone p e below _ (T291.setTop (mkF m 116 #[.val (.ref r), .val (.int k1), .val (.int x2), .val (.ref st), .val (.ref nu), .val (.ref en), .val (.ref oa), .val (.int (k1 &&& (3 : Int32))), .val (.int (2 : Int32)), .val (.int tq)] []))
              rcases j4 with j4 | j4
              · obtain ⟨j4, j5, j6⟩ := j4
                show OwnDone p e below _ (T291.setTop (mkF m 116 #[.val (.ref r), .val (.int k1), .val (.int x2), .val (.ref st), .val (.ref nu), .val (.ref en), .val (.ref oa), .val (.int (k1 &&& (3 : Int32))), .val (.int (2 : Int32)), .val (.int tq)] []))
                refine OwnDone.go (A := (T291.setTop (mkF m 117 #[.val (.ref r), .val (.int k1), .val (.int x2), .val (.ref st), .val (.ref nu), .val (.ref en), .val (.ref oa), .val (.int (k1 &&& (3 : Int32))), .val (.int (2 : Int32)), .val (.int tq)] [(.ref r)]))) (fun tQ kQ => ?_) ?_
                · refine XS.aloadN P291.here hx rfl (hb hby dst_116) rfl rfl ?_
                  show Steps p.tables e below (T291.setTop (mkF m 117 #[.val (.ref r), .val (.int k1), .val (.int x2), .val (.ref st), .val (.ref nu), .val (.ref en), .val (.ref oa), .val (.int (k1 &&& (3 : Int32))), .val (.int (2 : Int32)), .val (.int tq)] [(.ref r)])) _
                  exact kQ
                show OwnDone p e below _ (T291.setTop (mkF m 117 #[.val (.ref r), .val (.int k1), .val (.int x2), .val (.ref st), .val (.ref nu), .val (.ref en), .val (.ref oa), .val (.int (k1 &&& (3 : Int32))), .val (.int (2 : Int32)), .val (.int tq)] [(.ref r)]))
                refine own_callV (y := (⟨"com/example/tidx/tidx/index/Run", "first", "()[Ljava/lang/Object;"⟩ : MethodName)) (z := (⟨"com/example/tidx/tidx/index/Run", "first", "()[Ljava/lang/Object;"⟩ : MethodName)) (CC := "com/example/tidx/tidx/index/Run") C P291 Ob291.1 (hw _ (List.mem_of_getElem? (i := 34) rfl)) (hw _ (List.mem_of_getElem? (i := 35) rfl)) (hw _ (List.mem_of_getElem? (i := 37) rfl)) (hw _ (List.mem_of_getElem? (i := 37) rfl)) (hw _ (List.mem_of_getElem? (i := 36) rfl)) (hw _ (List.mem_of_getElem? (i := 8) rfl)) (hw _ (List.mem_of_getElem? (i := 38) rfl)) (by decide) (rmfb l Z a0 hw r aR aV aF aT aO aW kV kF kW vd (sl + (1 : Int32)) ow (sz + (tq - (2 : Int32))) (vv.set (sl).toNatClampNeg (.ref en)) (ff.set (sl).toNatClampNeg (.int (2 : Int32))) ww aW b0 f h291 P291.old Ob291 YaV291 YaF291 Y301_aW (own_incNe bs (by omega)) ((List.getElem?_set_ne (own_ne0 bs.1 j1)).trans j4) ((List.getElem?_set_ne (own_ne0 bs.1 j1)).trans j2) j3 j5) (as := []) (rest := []) pd_4 rfl rfl (wd := 0) rfl rfl dst_117 all0 (by decide) (by decide) (by decide) (by decide) (fun T304 h304 v304 P304 K304 hQ304 => ?_)
                obtain ⟨rfl, rfl⟩ := hQ304
                show OwnDone p e below _ (T304.setTop (mkF m 120 #[.val (.ref r), .val (.int k1), .val (.int x2), .val (.ref st), .val (.ref nu), .val (.ref en), .val (.ref oa), .val (.int (k1 &&& (3 : Int32))), .val (.int (2 : Int32)), .val (.int tq)] [(.ref b0)]))
                refine OwnDone.go (A := (T304.setTop (mkF m 123 #[.val (.ref r), .val (.int k1), .val (.int x2), .val (.ref st), .val (.ref nu), .val (.ref en), .val (.ref oa), .val (.int (k1 &&& (3 : Int32))), .val (.int (2 : Int32)), .val (.int tq)] [(.ref b0), (.ref b0)]))) (fun tQ kQ => ?_) ?_
                · refine XS.aloadN P304.here hx rfl (hb hby dst_120) rfl rfl ?_
                  show Steps p.tables e below (T304.setTop (mkF m 121 #[.val (.ref r), .val (.int k1), .val (.int x2), .val (.ref st), .val (.ref nu), .val (.ref en), .val (.ref oa), .val (.int (k1 &&& (3 : Int32))), .val (.int (2 : Int32)), .val (.int tq)] [(.ref st), (.ref b0)])) _
                  refine XS.iconst P304.here hx rfl (hb hby dst_121) ?_
                  show Steps p.tables e below (T304.setTop (mkF m 122 #[.val (.ref r), .val (.int k1), .val (.int x2), .val (.ref st), .val (.ref nu), .val (.ref en), .val (.ref oa), .val (.int (k1 &&& (3 : Int32))), .val (.int (2 : Int32)), .val (.int tq)] [(.int (0 : Int32)), (.ref st), (.ref b0)])) _
                  refine own_aaload C P304 Y302_st rfl (by decide) rfl dst_122 ?_
                  show Steps p.tables e below (T304.setTop (mkF m 123 #[.val (.ref r), .val (.int k1), .val (.int x2), .val (.ref st), .val (.ref nu), .val (.ref en), .val (.ref oa), .val (.int (k1 &&& (3 : Int32))), .val (.int (2 : Int32)), .val (.int tq)] [(.ref b0), (.ref b0)])) _
                  exact kQ
                show OwnDone p e below _ (T304.setTop (mkF m 123 #[.val (.ref r), .val (.int k1), .val (.int x2), .val (.ref st), .val (.ref nu), .val (.ref en), .val (.ref oa), .val (.int (k1 &&& (3 : Int32))), .val (.int (2 : Int32)), .val (.int tq)] [(.ref b0), (.ref b0)]))
                refine OwnDone.go (A := (T304.setTop (mkF m 126 #[.val (.ref r), .val (.int k1), .val (.int x2), .val (.ref st), .val (.ref nu), .val (.ref en), .val (.ref oa), .val (.int (k1 &&& (3 : Int32))), .val (.int (2 : Int32)), .val (.int tq)] []))) (fun tQ kQ => XT.acmpNo P304.here hx rfl (hb hby dst_123) rfl rfl rfl (XT.aa_ne_f rfl) kQ) ?_
                show OwnDone p e below _ (T304.setTop (mkF m 126 #[.val (.ref r), .val (.int k1), .val (.int x2), .val (.ref st), .val (.ref nu), .val (.ref en), .val (.ref oa), .val (.int (k1 &&& (3 : Int32))), .val (.int (2 : Int32)), .val (.int tq)] []))
                refine OwnDone.go (A := (T304.setTop (mkF m 131 #[.val (.ref r), .val (.int k1), .val (.int x2), .val (.ref st), .val (.ref nu), .val (.ref en), .val (.ref oa), .val (.int (k1 &&& (3 : Int32))), .val (.int (2 : Int32)), .val (.int tq)] [(.int (1 : Int32))]))) (fun tQ kQ => ?_) ?_
                · refine XS.iconst P304.here hx rfl (hb hby dst_126) ?_
                  show Steps p.tables e below (T304.setTop (mkF m 127 #[.val (.ref r), .val (.int k1), .val (.int x2), .val (.ref st), .val (.ref nu), .val (.ref en), .val (.ref oa), .val (.int (k1 &&& (3 : Int32))), .val (.int (2 : Int32)), .val (.int tq)] [(.int (1 : Int32))])) _
                  refine XS.goto P304.here hx rfl (pc0 := 127) (pc' := 131) rfl (hb hby dst_127) (by decide) (by decide) ?_
                  show Steps p.tables e below (T304.setTop (mkF m 131 #[.val (.ref r), .val (.int k1), .val (.int x2), .val (.ref st), .val (.ref nu), .val (.ref en), .val (.ref oa), .val (.int (k1 &&& (3 : Int32))), .val (.int (2 : Int32)), .val (.int tq)] [(.int (1 : Int32))])) _
                  exact kQ
                show OwnDone p e below _ (T304.setTop (mkF m 131 #[.val (.ref r), .val (.int k1), .val (.int x2), .val (.ref st), .val (.ref nu), .val (.ref en), .val (.ref oa), .val (.int (k1 &&& (3 : Int32))), .val (.int (2 : Int32)), .val (.int tq)] [(.int (1 : Int32))]))
                refine own_retN C P304 (by simp) (z' := (1 : Int32)) (by decide) dst_131 (by decide) (by decide) ?_
                refine ⟨rfl, vd, (sl + (1 : Int32)), ow, (sz + (tq - (2 : Int32))), (rr.set (sl).toNatClampNeg (.ref nu)), (vv.set (sl).toNatClampNeg (.ref en)), (ff.set (sl).toNatClampNeg (.int (2 : Int32))), (tt.set (sl).toNatClampNeg (.int tq)), oo, ww, (.ref b0), s1, Ob291, YaR291, YaV291, YaF291, YaT291, Y300_aO, Y301_aW, Y302_st, Y303_en, ⟨laR291, laV291, laF291, laT291, lO, lW⟩, ?_, ?_, ?_, ?_⟩
                · exact own_inc bs (by omega)
                · exact ⟨bo.1, by have := bo.2; omega⟩
                · exact I1.imp id fun ⟨q1, q2, q3, q4, q5⟩ => ⟨q1, q2, q3, q4, (own_insK q5 K291)⟩
                · exact Or.inr ⟨own_incNe bs (by omega), b0, f, rfl, (List.getElem?_set_ne (own_ne0 bs.1 j1)).trans j2, j3, Or.inl ⟨(List.getElem?_set_ne (own_ne0 bs.1 j1)).trans j4, j5, j6⟩⟩
              · obtain ⟨j4, j5⟩ := j4
                show OwnDone p e below _ (T291.setTop (mkF m 116 #[.val (.ref r), .val (.int k1), .val (.int x2), .val (.ref st), .val (.ref nu), .val (.ref en), .val (.ref oa), .val (.int (k1 &&& (3 : Int32))), .val (.int (2 : Int32)), .val (.int tq)] []))
                refine OwnDone.go (A := (T291.setTop (mkF m 117 #[.val (.ref r), .val (.int k1), .val (.int x2), .val (.ref st), .val (.ref nu), .val (.ref en), .val (.ref oa), .val (.int (k1 &&& (3 : Int32))), .val (.int (2 : Int32)), .val (.int tq)] [(.ref r)]))) (fun tQ kQ => ?_) ?_
                · refine XS.aloadN P291.here hx rfl (hb hby dst_116) rfl rfl ?_
                  show Steps p.tables e below (T291.setTop (mkF m 117 #[.val (.ref r), .val (.int k1), .val (.int x2), .val (.ref st), .val (.ref nu), .val (.ref en), .val (.ref oa), .val (.int (k1 &&& (3 : Int32))), .val (.int (2 : Int32)), .val (.int tq)] [(.ref r)])) _
                  exact kQ
                show OwnDone p e below _ (T291.setTop (mkF m 117 #[.val (.ref r), .val (.int k1), .val (.int x2), .val (.ref st), .val (.ref nu), .val (.ref en), .val (.ref oa), .val (.int (k1 &&& (3 : Int32))), .val (.int (2 : Int32)), .val (.int tq)] [(.ref r)]))
                refine own_callV (y := (⟨"com/example/tidx/tidx/index/Run", "first", "()[Ljava/lang/Object;"⟩ : MethodName)) (z := (⟨"com/example/tidx/tidx/index/Run", "first", "()[Ljava/lang/Object;"⟩ : MethodName)) (CC := "com/example/tidx/tidx/index/Run") C P291 Ob291.1 (hw _ (List.mem_of_getElem? (i := 34) rfl)) (hw _ (List.mem_of_getElem? (i := 35) rfl)) (hw _ (List.mem_of_getElem? (i := 37) rfl)) (hw _ (List.mem_of_getElem? (i := 37) rfl)) (hw _ (List.mem_of_getElem? (i := 36) rfl)) (hw _ (List.mem_of_getElem? (i := 8) rfl)) (hw _ (List.mem_of_getElem? (i := 38) rfl)) (by decide) (rmfb l Z a0 hw r aR aV aF aT aO aW kV kF kE vd (sl + (1 : Int32)) ow (sz + (tq - (2 : Int32))) (vv.set (sl).toNatClampNeg (.ref en)) (ff.set (sl).toNatClampNeg (.int (2 : Int32))) [(.ref e0), (.ref e1), (.ref e2), (.ref e3)] en b0 f h291 P291.old Ob291 YaV291 YaF291 Y303_en (own_incNe bs (by omega)) ((List.getElem?_set_ne (own_ne0 bs.1 j1)).trans j4) ((List.getElem?_set_ne (own_ne0 bs.1 j1)).trans j2) j3 j5) (as := []) (rest := []) pd_4 rfl rfl (wd := 0) rfl rfl dst_117 all0 (by decide) (by decide) (by decide) (by decide) (fun T305 h305 v305 P305 K305 hQ305 => ?_)
                obtain ⟨rfl, rfl⟩ := hQ305
                show OwnDone p e below _ (T305.setTop (mkF m 120 #[.val (.ref r), .val (.int k1), .val (.int x2), .val (.ref st), .val (.ref nu), .val (.ref en), .val (.ref oa), .val (.int (k1 &&& (3 : Int32))), .val (.int (2 : Int32)), .val (.int tq)] [(.ref b0)]))
                refine OwnDone.go (A := (T305.setTop (mkF m 123 #[.val (.ref r), .val (.int k1), .val (.int x2), .val (.ref st), .val (.ref nu), .val (.ref en), .val (.ref oa), .val (.int (k1 &&& (3 : Int32))), .val (.int (2 : Int32)), .val (.int tq)] [(.ref b0), (.ref b0)]))) (fun tQ kQ => ?_) ?_
                · refine XS.aloadN P305.here hx rfl (hb hby dst_120) rfl rfl ?_
                  show Steps p.tables e below (T305.setTop (mkF m 121 #[.val (.ref r), .val (.int k1), .val (.int x2), .val (.ref st), .val (.ref nu), .val (.ref en), .val (.ref oa), .val (.int (k1 &&& (3 : Int32))), .val (.int (2 : Int32)), .val (.int tq)] [(.ref st), (.ref b0)])) _
                  refine XS.iconst P305.here hx rfl (hb hby dst_121) ?_
                  show Steps p.tables e below (T305.setTop (mkF m 122 #[.val (.ref r), .val (.int k1), .val (.int x2), .val (.ref st), .val (.ref nu), .val (.ref en), .val (.ref oa), .val (.int (k1 &&& (3 : Int32))), .val (.int (2 : Int32)), .val (.int tq)] [(.int (0 : Int32)), (.ref st), (.ref b0)])) _
                  refine own_aaload C P305 Y302_st rfl (by decide) rfl dst_122 ?_
                  show Steps p.tables e below (T305.setTop (mkF m 123 #[.val (.ref r), .val (.int k1), .val (.int x2), .val (.ref st), .val (.ref nu), .val (.ref en), .val (.ref oa), .val (.int (k1 &&& (3 : Int32))), .val (.int (2 : Int32)), .val (.int tq)] [(.ref b0), (.ref b0)])) _
                  exact kQ
                show OwnDone p e below _ (T305.setTop (mkF m 123 #[.val (.ref r), .val (.int k1), .val (.int x2), .val (.ref st), .val (.ref nu), .val (.ref en), .val (.ref oa), .val (.int (k1 &&& (3 : Int32))), .val (.int (2 : Int32)), .val (.int tq)] [(.ref b0), (.ref b0)]))
                refine OwnDone.go (A := (T305.setTop (mkF m 126 #[.val (.ref r), .val (.int k1), .val (.int x2), .val (.ref st), .val (.ref nu), .val (.ref en), .val (.ref oa), .val (.int (k1 &&& (3 : Int32))), .val (.int (2 : Int32)), .val (.int tq)] []))) (fun tQ kQ => XT.acmpNo P305.here hx rfl (hb hby dst_123) rfl rfl rfl (XT.aa_ne_f rfl) kQ) ?_
                show OwnDone p e below _ (T305.setTop (mkF m 126 #[.val (.ref r), .val (.int k1), .val (.int x2), .val (.ref st), .val (.ref nu), .val (.ref en), .val (.ref oa), .val (.int (k1 &&& (3 : Int32))), .val (.int (2 : Int32)), .val (.int tq)] []))
                refine OwnDone.go (A := (T305.setTop (mkF m 131 #[.val (.ref r), .val (.int k1), .val (.int x2), .val (.ref st), .val (.ref nu), .val (.ref en), .val (.ref oa), .val (.int (k1 &&& (3 : Int32))), .val (.int (2 : Int32)), .val (.int tq)] [(.int (1 : Int32))]))) (fun tQ kQ => ?_) ?_
                · refine XS.iconst P305.here hx rfl (hb hby dst_126) ?_
                  show Steps p.tables e below (T305.setTop (mkF m 127 #[.val (.ref r), .val (.int k1), .val (.int x2), .val (.ref st), .val (.ref nu), .val (.ref en), .val (.ref oa), .val (.int (k1 &&& (3 : Int32))), .val (.int (2 : Int32)), .val (.int tq)] [(.int (1 : Int32))])) _
                  refine XS.goto P305.here hx rfl (pc0 := 127) (pc' := 131) rfl (hb hby dst_127) (by decide) (by decide) ?_
                  show Steps p.tables e below (T305.setTop (mkF m 131 #[.val (.ref r), .val (.int k1), .val (.int x2), .val (.ref st), .val (.ref nu), .val (.ref en), .val (.ref oa), .val (.int (k1 &&& (3 : Int32))), .val (.int (2 : Int32)), .val (.int tq)] [(.int (1 : Int32))])) _
                  exact kQ
                show OwnDone p e below _ (T305.setTop (mkF m 131 #[.val (.ref r), .val (.int k1), .val (.int x2), .val (.ref st), .val (.ref nu), .val (.ref en), .val (.ref oa), .val (.int (k1 &&& (3 : Int32))), .val (.int (2 : Int32)), .val (.int tq)] [(.int (1 : Int32))]))
                refine own_retN C P305 (by simp) (z' := (1 : Int32)) (by decide) dst_131 (by decide) (by decide) ?_
                refine ⟨rfl, vd, (sl + (1 : Int32)), ow, (sz + (tq - (2 : Int32))), (rr.set (sl).toNatClampNeg (.ref nu)), (vv.set (sl).toNatClampNeg (.ref en)), (ff.set (sl).toNatClampNeg (.int (2 : Int32))), (tt.set (sl).toNatClampNeg (.int tq)), oo, ww, (.ref b0), s1, Ob291, YaR291, YaV291, YaF291, YaT291, Y300_aO, Y301_aW, Y302_st, Y303_en, ⟨laR291, laV291, laF291, laT291, lO, lW⟩, ?_, ?_, ?_, ?_⟩
                · exact own_inc bs (by omega)
                · exact ⟨bo.1, by have := bo.2; omega⟩
                · exact I1.imp id fun ⟨q1, q2, q3, q4, q5⟩ => ⟨q1, q2, q3, q4, (own_insK q5 K291)⟩
                · exact Or.inr ⟨own_incNe bs (by omega), b0, f, rfl, (List.getElem?_set_ne (own_ne0 bs.1 j1)).trans j2, j3, Or.inr ⟨(List.getElem?_set_ne (own_ne0 bs.1 j1)).trans j4, j5⟩⟩
          · rcases I0 with I0 | I0
            · obtain ⟨j1, rfl⟩ := I0
              show OwnDone p e below _ (T259.setTop (mkF m 77 #[.val (.ref r), .val (.int k1), .val (.int x2), .val (.ref st), .val (.ref nu), .val (.ref en), .val (.ref oa), .val (.int (k1 &&& (3 : Int32))), .val (.int (2 : Int32)), .val (.int tq)] [(.int tq), (.int (2 : Int32)), (.ref en), (.ref nu), (.ref r)]))
              refine own_callV (y := (⟨"com/example/tidx/tidx/index/Run", "add", "([I[[Ljava/lang/Object;II)V"⟩ : MethodName)) (z := (⟨"com/example/tidx/tidx/index/Run", "add", "([I[[Ljava/lang/Object;II)V"⟩ : MethodName)) (CC := "com/example/tidx/tidx/index/Run") C P259 Ob.1 (hw _ (List.mem_of_getElem? (i := 81) rfl)) (hw _ (List.mem_of_getElem? (i := 82) rfl)) (hw _ (List.mem_of_getElem? (i := 84) rfl)) (hw _ (List.mem_of_getElem? (i := 84) rfl)) (hw _ (List.mem_of_getElem? (i := 83) rfl)) (hw _ (List.mem_of_getElem? (i := 8) rfl)) (hw _ (List.mem_of_getElem? (i := 85) rfl)) (by decide) (rmag l Z a0 hw r nu en (2 : Int32) tq h0 P259.old hst) (as := [(.ref nu), (.ref en), (.int (2 : Int32)), (.int tq)]) (rest := []) pd_0 rfl rfl (wd := 0) rfl rfl dst_77 all0 (by decide) (by decide) (by decide) (by decide) (fun T306 h306 v306 P306 K306 hQ306 => ?_)
              obtain ⟨rfl, rfl⟩ := hQ306
              show OwnDone p e below _ (T306.setTop (mkF m 80 #[.val (.ref r), .val (.int k1), .val (.int x2), .val (.ref st), .val (.ref nu), .val (.ref en), .val (.ref oa), .val (.int (k1 &&& (3 : Int32))), .val (.int (2 : Int32)), .val (.int tq)] []))
              refine OwnDone.go (A := (T306.setTop (mkF m 84 #[.val (.ref r), .val (.int k1), .val (.int x2), .val (.ref st), .val (.ref nu), .val (.ref en), .val (.ref oa), .val (.int (k1 &&& (3 : Int32))), .val (.int (2 : Int32)), .val (.int tq)] [(.int tq), (.int (2 : Int32))]))) (fun tQ kQ => ?_) ?_
              · refine XS.iload P306.here hx rfl (hb hby dst_80) rfl ?_
                show Steps p.tables e below (T306.setTop (mkF m 82 #[.val (.ref r), .val (.int k1), .val (.int x2), .val (.ref st), .val (.ref nu), .val (.ref en), .val (.ref oa), .val (.int (k1 &&& (3 : Int32))), .val (.int (2 : Int32)), .val (.int tq)] [(.int (2 : Int32))])) _
                refine XS.iload P306.here hx rfl (hb hby dst_82) rfl ?_
                show Steps p.tables e below (T306.setTop (mkF m 84 #[.val (.ref r), .val (.int k1), .val (.int x2), .val (.ref st), .val (.ref nu), .val (.ref en), .val (.ref oa), .val (.int (k1 &&& (3 : Int32))), .val (.int (2 : Int32)), .val (.int tq)] [(.int tq), (.int (2 : Int32))])) _
                exact kQ
              show OwnDone p e below _ (T306.setTop (mkF m 84 #[.val (.ref r), .val (.int k1), .val (.int x2), .val (.ref st), .val (.ref nu), .val (.ref en), .val (.ref oa), .val (.int (k1 &&& (3 : Int32))), .val (.int (2 : Int32)), .val (.int tq)] [(.int tq), (.int (2 : Int32))]))
              refine OwnDone.go (A := (T306.setTop (mkF m 101 #[.val (.ref r), .val (.int k1), .val (.int x2), .val (.ref st), .val (.ref nu), .val (.ref en), .val (.ref oa), .val (.int (k1 &&& (3 : Int32))), .val (.int (2 : Int32)), .val (.int tq)] []))) (fun tQ kQ => XS.icmpYes P306.here hx rfl (pc0 := 84) (pc' := 101) rfl (hb hby dst_84) rfl (XT.ii_ge_t hst) (by decide) (by decide) kQ) ?_
              show OwnDone p e below _ (T306.setTop (mkF m 101 #[.val (.ref r), .val (.int k1), .val (.int x2), .val (.ref st), .val (.ref nu), .val (.ref en), .val (.ref oa), .val (.int (k1 &&& (3 : Int32))), .val (.int (2 : Int32)), .val (.int tq)] []))
              refine OwnDone.go (A := (T306.setTop (mkF m 116 #[.val (.ref r), .val (.int k1), .val (.int x2), .val (.ref st), .val (.ref nu), .val (.ref en), .val (.ref oa), .val (.int (k1 &&& (3 : Int32))), .val (.int (2 : Int32)), .val (.int tq)] []))) (fun tQ kQ => ?_) ?_
              · refine XS.goto P306.here hx rfl (pc0 := 101) (pc' := 116) rfl (hb hby dst_101) (by decide) (by decide) ?_
                show Steps p.tables e below (T306.setTop (mkF m 116 #[.val (.ref r), .val (.int k1), .val (.int x2), .val (.ref st), .val (.ref nu), .val (.ref en), .val (.ref oa), .val (.int (k1 &&& (3 : Int32))), .val (.int (2 : Int32)), .val (.int tq)] [])) _
                exact kQ
              show OwnDone p e below _ (T306.setTop (mkF m 116 #[.val (.ref r), .val (.int k1), .val (.int x2), .val (.ref st), .val (.ref nu), .val (.ref en), .val (.ref oa), .val (.int (k1 &&& (3 : Int32))), .val (.int (2 : Int32)), .val (.int tq)] []))
              subst j1
              refine OwnDone.go (A := (T306.setTop (mkF m 117 #[.val (.ref r), .val (.int k1), .val (.int x2), .val (.ref st), .val (.ref nu), .val (.ref en), .val (.ref oa), .val (.int (k1 &&& (3 : Int32))), .val (.int (2 : Int32)), .val (.int tq)] [(.ref r)]))) (fun tQ kQ => ?_) ?_
              · refine XS.aloadN P306.here hx rfl (hb hby dst_116) rfl rfl ?_
                show Steps p.tables e below (T306.setTop (mkF m 117 #[.val (.ref r), .val (.int k1), .val (.int x2), .val (.ref st), .val (.ref nu), .val (.ref en), .val (.ref oa), .val (.int (k1 &&& (3 : Int32))), .val (.int (2 : Int32)), .val (.int tq)] [(.ref r)])) _
                exact kQ
              show OwnDone p e below _ (T306.setTop (mkF m 117 #[.val (.ref r), .val (.int k1), .val (.int x2), .val (.ref st), .val (.ref nu), .val (.ref en), .val (.ref oa), .val (.int (k1 &&& (3 : Int32))), .val (.int (2 : Int32)), .val (.int tq)] [(.ref r)]))
              refine own_callV (y := (⟨"com/example/tidx/tidx/index/Run", "first", "()[Ljava/lang/Object;"⟩ : MethodName)) (z := (⟨"com/example/tidx/tidx/index/Run", "first", "()[Ljava/lang/Object;"⟩ : MethodName)) (CC := "com/example/tidx/tidx/index/Run") C P306 Ob.1 (hw _ (List.mem_of_getElem? (i := 34) rfl)) (hw _ (List.mem_of_getElem? (i := 35) rfl)) (hw _ (List.mem_of_getElem? (i := 37) rfl)) (hw _ (List.mem_of_getElem? (i := 37) rfl)) (hw _ (List.mem_of_getElem? (i := 36) rfl)) (hw _ (List.mem_of_getElem? (i := 8) rfl)) (hw _ (List.mem_of_getElem? (i := 38) rfl)) (by decide) (rmfa l Z a0 hw r aR aV aF aT aO aW vd ow sz h0 P306.old Ob) (as := []) (rest := []) pd_4 rfl rfl (wd := 0) rfl rfl dst_117 all0 (by decide) (by decide) (by decide) (by decide) (fun T307 h307 v307 P307 K307 hQ307 => ?_)
              obtain ⟨rfl, rfl⟩ := hQ307
              show OwnDone p e below _ (T307.setTop (mkF m 120 #[.val (.ref r), .val (.int k1), .val (.int x2), .val (.ref st), .val (.ref nu), .val (.ref en), .val (.ref oa), .val (.int (k1 &&& (3 : Int32))), .val (.int (2 : Int32)), .val (.int tq)] [.null]))
              refine OwnDone.go (A := (T307.setTop (mkF m 123 #[.val (.ref r), .val (.int k1), .val (.int x2), .val (.ref st), .val (.ref nu), .val (.ref en), .val (.ref oa), .val (.int (k1 &&& (3 : Int32))), .val (.int (2 : Int32)), .val (.int tq)] [.null, .null]))) (fun tQ kQ => ?_) ?_
              · refine XS.aloadN P307.here hx rfl (hb hby dst_120) rfl rfl ?_
                show Steps p.tables e below (T307.setTop (mkF m 121 #[.val (.ref r), .val (.int k1), .val (.int x2), .val (.ref st), .val (.ref nu), .val (.ref en), .val (.ref oa), .val (.int (k1 &&& (3 : Int32))), .val (.int (2 : Int32)), .val (.int tq)] [(.ref st), .null])) _
                refine XS.iconst P307.here hx rfl (hb hby dst_121) ?_
                show Steps p.tables e below (T307.setTop (mkF m 122 #[.val (.ref r), .val (.int k1), .val (.int x2), .val (.ref st), .val (.ref nu), .val (.ref en), .val (.ref oa), .val (.int (k1 &&& (3 : Int32))), .val (.int (2 : Int32)), .val (.int tq)] [(.int (0 : Int32)), (.ref st), .null])) _
                refine own_aaload C P307 Yst rfl (by decide) rfl dst_122 ?_
                show Steps p.tables e below (T307.setTop (mkF m 123 #[.val (.ref r), .val (.int k1), .val (.int x2), .val (.ref st), .val (.ref nu), .val (.ref en), .val (.ref oa), .val (.int (k1 &&& (3 : Int32))), .val (.int (2 : Int32)), .val (.int tq)] [.null, .null])) _
                exact kQ
              show OwnDone p e below _ (T307.setTop (mkF m 123 #[.val (.ref r), .val (.int k1), .val (.int x2), .val (.ref st), .val (.ref nu), .val (.ref en), .val (.ref oa), .val (.int (k1 &&& (3 : Int32))), .val (.int (2 : Int32)), .val (.int tq)] [.null, .null]))
              refine OwnDone.go (A := (T307.setTop (mkF m 126 #[.val (.ref r), .val (.int k1), .val (.int x2), .val (.ref st), .val (.ref nu), .val (.ref en), .val (.ref oa), .val (.int (k1 &&& (3 : Int32))), .val (.int (2 : Int32)), .val (.int tq)] []))) (fun tQ kQ => XT.acmpNo P307.here hx rfl (hb hby dst_123) rfl rfl rfl (XT.aa_ne_f rfl) kQ) ?_
              show OwnDone p e below _ (T307.setTop (mkF m 126 #[.val (.ref r), .val (.int k1), .val (.int x2), .val (.ref st), .val (.ref nu), .val (.ref en), .val (.ref oa), .val (.int (k1 &&& (3 : Int32))), .val (.int (2 : Int32)), .val (.int tq)] []))
              refine OwnDone.go (A := (T307.setTop (mkF m 131 #[.val (.ref r), .val (.int k1), .val (.int x2), .val (.ref st), .val (.ref nu), .val (.ref en), .val (.ref oa), .val (.int (k1 &&& (3 : Int32))), .val (.int (2 : Int32)), .val (.int tq)] [(.int (1 : Int32))]))) (fun tQ kQ => ?_) ?_
              · refine XS.iconst P307.here hx rfl (hb hby dst_126) ?_
                show Steps p.tables e below (T307.setTop (mkF m 127 #[.val (.ref r), .val (.int k1), .val (.int x2), .val (.ref st), .val (.ref nu), .val (.ref en), .val (.ref oa), .val (.int (k1 &&& (3 : Int32))), .val (.int (2 : Int32)), .val (.int tq)] [(.int (1 : Int32))])) _
                refine XS.goto P307.here hx rfl (pc0 := 127) (pc' := 131) rfl (hb hby dst_127) (by decide) (by decide) ?_
                show Steps p.tables e below (T307.setTop (mkF m 131 #[.val (.ref r), .val (.int k1), .val (.int x2), .val (.ref st), .val (.ref nu), .val (.ref en), .val (.ref oa), .val (.int (k1 &&& (3 : Int32))), .val (.int (2 : Int32)), .val (.int tq)] [(.int (1 : Int32))])) _
                exact kQ
              show OwnDone p e below _ (T307.setTop (mkF m 131 #[.val (.ref r), .val (.int k1), .val (.int x2), .val (.ref st), .val (.ref nu), .val (.ref en), .val (.ref oa), .val (.int (k1 &&& (3 : Int32))), .val (.int (2 : Int32)), .val (.int tq)] [(.int (1 : Int32))]))
              refine own_retN C P307 (by simp) (z' := (1 : Int32)) (by decide) dst_131 (by decide) (by decide) ?_
              refine ⟨rfl, vd, (0 : Int32), ow, sz, rr, vv, ff, tt, oo, ww, .null, s1, Ob, YaR, YaV, YaF, YaT, YaO, YaW, Yst, Yen, ⟨lR, lV, lF, lT, lO, lW⟩, ?_, ?_, ?_, ?_⟩
              · exact ⟨bs.1, by have := bs.2; omega⟩
              · exact ⟨bo.1, by have := bo.2; omega⟩
              · exact I1.imp id fun ⟨q1, q2, q3, q4, q5⟩ => ⟨q1, q2, q3, q4, q5⟩
              · exact Or.inl ⟨rfl, rfl⟩
            · obtain ⟨j1, b0, f, rfl, j2, j3, j4⟩ := I0
              show OwnDone p e below _ (T259.setTop (mkF m 77 #[.val (.ref r), .val (.int k1), .val (.int x2), .val (.ref st), .val (.ref nu), .val (.ref en), .val (.ref oa), .val (.int (k1 &&& (3 : Int32))), .val (.int (2 : Int32)), .val (.int tq)] [(.int tq), (.int (2 : Int32)), (.ref en), (.ref nu), (.ref r)]))
              refine own_callV (y := (⟨"com/example/tidx/tidx/index/Run", "add", "([I[[Ljava/lang/Object;II)V"⟩ : MethodName)) (z := (⟨"com/example/tidx/tidx/index/Run", "add", "([I[[Ljava/lang/Object;II)V"⟩ : MethodName)) (CC := "com/example/tidx/tidx/index/Run") C P259 Ob.1 (hw _ (List.mem_of_getElem? (i := 81) rfl)) (hw _ (List.mem_of_getElem? (i := 82) rfl)) (hw _ (List.mem_of_getElem? (i := 84) rfl)) (hw _ (List.mem_of_getElem? (i := 84) rfl)) (hw _ (List.mem_of_getElem? (i := 83) rfl)) (hw _ (List.mem_of_getElem? (i := 8) rfl)) (hw _ (List.mem_of_getElem? (i := 85) rfl)) (by decide) (rmag l Z a0 hw r nu en (2 : Int32) tq h0 P259.old hst) (as := [(.ref nu), (.ref en), (.int (2 : Int32)), (.int tq)]) (rest := []) pd_0 rfl rfl (wd := 0) rfl rfl dst_77 all0 (by decide) (by decide) (by decide) (by decide) (fun T308 h308 v308 P308 K308 hQ308 => ?_)
              obtain ⟨rfl, rfl⟩ := hQ308
              show OwnDone p e below _ (T308.setTop (mkF m 80 #[.val (.ref r), .val (.int k1), .val (.int x2), .val (.ref st), .val (.ref nu), .val (.ref en), .val (.ref oa), .val (.int (k1 &&& (3 : Int32))), .val (.int (2 : Int32)), .val (.int tq)] []))
              refine OwnDone.go (A := (T308.setTop (mkF m 84 #[.val (.ref r), .val (.int k1), .val (.int x2), .val (.ref st), .val (.ref nu), .val (.ref en), .val (.ref oa), .val (.int (k1 &&& (3 : Int32))), .val (.int (2 : Int32)), .val (.int tq)] [(.int tq), (.int (2 : Int32))]))) (fun tQ kQ => ?_) ?_
              · refine XS.iload P308.here hx rfl (hb hby dst_80) rfl ?_
                show Steps p.tables e below (T308.setTop (mkF m 82 #[.val (.ref r), .val (.int k1), .val (.int x2), .val (.ref st), .val (.ref nu), .val (.ref en), .val (.ref oa), .val (.int (k1 &&& (3 : Int32))), .val (.int (2 : Int32)), .val (.int tq)] [(.int (2 : Int32))])) _
                refine XS.iload P308.here hx rfl (hb hby dst_82) rfl ?_
                show Steps p.tables e below (T308.setTop (mkF m 84 #[.val (.ref r), .val (.int k1), .val (.int x2), .val (.ref st), .val (.ref nu), .val (.ref en), .val (.ref oa), .val (.int (k1 &&& (3 : Int32))), .val (.int (2 : Int32)), .val (.int tq)] [(.int tq), (.int (2 : Int32))])) _
                exact kQ
              show OwnDone p e below _ (T308.setTop (mkF m 84 #[.val (.ref r), .val (.int k1), .val (.int x2), .val (.ref st), .val (.ref nu), .val (.ref en), .val (.ref oa), .val (.int (k1 &&& (3 : Int32))), .val (.int (2 : Int32)), .val (.int tq)] [(.int tq), (.int (2 : Int32))]))
              refine OwnDone.go (A := (T308.setTop (mkF m 101 #[.val (.ref r), .val (.int k1), .val (.int x2), .val (.ref st), .val (.ref nu), .val (.ref en), .val (.ref oa), .val (.int (k1 &&& (3 : Int32))), .val (.int (2 : Int32)), .val (.int tq)] []))) (fun tQ kQ => XS.icmpYes P308.here hx rfl (pc0 := 84) (pc' := 101) rfl (hb hby dst_84) rfl (XT.ii_ge_t hst) (by decide) (by decide) kQ) ?_
              show OwnDone p e below _ (T308.setTop (mkF m 101 #[.val (.ref r), .val (.int k1), .val (.int x2), .val (.ref st), .val (.ref nu), .val (.ref en), .val (.ref oa), .val (.int (k1 &&& (3 : Int32))), .val (.int (2 : Int32)), .val (.int tq)] []))
              refine OwnDone.go (A := (T308.setTop (mkF m 116 #[.val (.ref r), .val (.int k1), .val (.int x2), .val (.ref st), .val (.ref nu), .val (.ref en), .val (.ref oa), .val (.int (k1 &&& (3 : Int32))), .val (.int (2 : Int32)), .val (.int tq)] []))) (fun tQ kQ => ?_) ?_
              · refine XS.goto P308.here hx rfl (pc0 := 101) (pc' := 116) rfl (hb hby dst_101) (by decide) (by decide) ?_
                show Steps p.tables e below (T308.setTop (mkF m 116 #[.val (.ref r), .val (.int k1), .val (.int x2), .val (.ref st), .val (.ref nu), .val (.ref en), .val (.ref oa), .val (.int (k1 &&& (3 : Int32))), .val (.int (2 : Int32)), .val (.int tq)] [])) _
                exact kQ
              show OwnDone p e below _ (T308.setTop (mkF m 116 #[.val (.ref r), .val (.int k1), .val (.int x2), .val (.ref st), .val (.ref nu), .val (.ref en), .val (.ref oa), .val (.int (k1 &&& (3 : Int32))), .val (.int (2 : Int32)), .val (.int tq)] []))
              rcases j4 with j4 | j4
              · obtain ⟨j4, j5, j6⟩ := j4
                show OwnDone p e below _ (T308.setTop (mkF m 116 #[.val (.ref r), .val (.int k1), .val (.int x2), .val (.ref st), .val (.ref nu), .val (.ref en), .val (.ref oa), .val (.int (k1 &&& (3 : Int32))), .val (.int (2 : Int32)), .val (.int tq)] []))
                refine OwnDone.go (A := (T308.setTop (mkF m 117 #[.val (.ref r), .val (.int k1), .val (.int x2), .val (.ref st), .val (.ref nu), .val (.ref en), .val (.ref oa), .val (.int (k1 &&& (3 : Int32))), .val (.int (2 : Int32)), .val (.int tq)] [(.ref r)]))) (fun tQ kQ => ?_) ?_
                · refine XS.aloadN P308.here hx rfl (hb hby dst_116) rfl rfl ?_
                  show Steps p.tables e below (T308.setTop (mkF m 117 #[.val (.ref r), .val (.int k1), .val (.int x2), .val (.ref st), .val (.ref nu), .val (.ref en), .val (.ref oa), .val (.int (k1 &&& (3 : Int32))), .val (.int (2 : Int32)), .val (.int tq)] [(.ref r)])) _
                  exact kQ
                show OwnDone p e below _ (T308.setTop (mkF m 117 #[.val (.ref r), .val (.int k1), .val (.int x2), .val (.ref st), .val (.ref nu), .val (.ref en), .val (.ref oa), .val (.int (k1 &&& (3 : Int32))), .val (.int (2 : Int32)), .val (.int tq)] [(.ref r)]))
                refine own_callV (y := (⟨"com/example/tidx/tidx/index/Run", "first", "()[Ljava/lang/Object;"⟩ : MethodName)) (z := (⟨"com/example/tidx/tidx/index/Run", "first", "()[Ljava/lang/Object;"⟩ : MethodName)) (CC := "com/example/tidx/tidx/index/Run") C P308 Ob.1 (hw _ (List.mem_of_getElem? (i := 34) rfl)) (hw _ (List.mem_of_getElem? (i := 35) rfl)) (hw _ (List.mem_of_getElem? (i := 37) rfl)) (hw _ (List.mem_of_getElem? (i := 37) rfl)) (hw _ (List.mem_of_getElem? (i := 36) rfl)) (hw _ (List.mem_of_getElem? (i := 8) rfl)) (hw _ (List.mem_of_getElem? (i := 38) rfl)) (by decide) (rmfb l Z a0 hw r aR aV aF aT aO aW kV kF kW vd sl ow sz vv ff ww aW b0 f h0 P308.old Ob YaV YaF YaW j1 j4 j2 j3 j5) (as := []) (rest := []) pd_4 rfl rfl (wd := 0) rfl rfl dst_117 all0 (by decide) (by decide) (by decide) (by decide) (fun T309 h309 v309 P309 K309 hQ309 => ?_)
                obtain ⟨rfl, rfl⟩ := hQ309
                show OwnDone p e below _ (T309.setTop (mkF m 120 #[.val (.ref r), .val (.int k1), .val (.int x2), .val (.ref st), .val (.ref nu), .val (.ref en), .val (.ref oa), .val (.int (k1 &&& (3 : Int32))), .val (.int (2 : Int32)), .val (.int tq)] [(.ref b0)]))
                refine OwnDone.go (A := (T309.setTop (mkF m 123 #[.val (.ref r), .val (.int k1), .val (.int x2), .val (.ref st), .val (.ref nu), .val (.ref en), .val (.ref oa), .val (.int (k1 &&& (3 : Int32))), .val (.int (2 : Int32)), .val (.int tq)] [(.ref b0), (.ref b0)]))) (fun tQ kQ => ?_) ?_
                · refine XS.aloadN P309.here hx rfl (hb hby dst_120) rfl rfl ?_
                  show Steps p.tables e below (T309.setTop (mkF m 121 #[.val (.ref r), .val (.int k1), .val (.int x2), .val (.ref st), .val (.ref nu), .val (.ref en), .val (.ref oa), .val (.int (k1 &&& (3 : Int32))), .val (.int (2 : Int32)), .val (.int tq)] [(.ref st), (.ref b0)])) _
                  refine XS.iconst P309.here hx rfl (hb hby dst_121) ?_
                  show Steps p.tables e below (T309.setTop (mkF m 122 #[.val (.ref r), .val (.int k1), .val (.int x2), .val (.ref st), .val (.ref nu), .val (.ref en), .val (.ref oa), .val (.int (k1 &&& (3 : Int32))), .val (.int (2 : Int32)), .val (.int tq)] [(.int (0 : Int32)), (.ref st), (.ref b0)])) _
                  refine own_aaload C P309 Yst rfl (by decide) rfl dst_122 ?_
                  show Steps p.tables e below (T309.setTop (mkF m 123 #[.val (.ref r), .val (.int k1), .val (.int x2), .val (.ref st), .val (.ref nu), .val (.ref en), .val (.ref oa), .val (.int (k1 &&& (3 : Int32))), .val (.int (2 : Int32)), .val (.int tq)] [(.ref b0), (.ref b0)])) _
                  exact kQ
                show OwnDone p e below _ (T309.setTop (mkF m 123 #[.val (.ref r), .val (.int k1), .val (.int x2), .val (.ref st), .val (.ref nu), .val (.ref en), .val (.ref oa), .val (.int (k1 &&& (3 : Int32))), .val (.int (2 : Int32)), .val (.int tq)] [(.ref b0), (.ref b0)]))
                refine OwnDone.go (A := (T309.setTop (mkF m 126 #[.val (.ref r), .val (.int k1), .val (.int x2), .val (.ref st), .val (.ref nu), .val (.ref en), .val (.ref oa), .val (.int (k1 &&& (3 : Int32))), .val (.int (2 : Int32)), .val (.int tq)] []))) (fun tQ kQ => XT.acmpNo P309.here hx rfl (hb hby dst_123) rfl rfl rfl (XT.aa_ne_f rfl) kQ) ?_
                show OwnDone p e below _ (T309.setTop (mkF m 126 #[.val (.ref r), .val (.int k1), .val (.int x2), .val (.ref st), .val (.ref nu), .val (.ref en), .val (.ref oa), .val (.int (k1 &&& (3 : Int32))), .val (.int (2 : Int32)), .val (.int tq)] []))
                refine OwnDone.go (A := (T309.setTop (mkF m 131 #[.val (.ref r), .val (.int k1), .val (.int x2), .val (.ref st), .val (.ref nu), .val (.ref en), .val (.ref oa), .val (.int (k1 &&& (3 : Int32))), .val (.int (2 : Int32)), .val (.int tq)] [(.int (1 : Int32))]))) (fun tQ kQ => ?_) ?_
                · refine XS.iconst P309.here hx rfl (hb hby dst_126) ?_
                  show Steps p.tables e below (T309.setTop (mkF m 127 #[.val (.ref r), .val (.int k1), .val (.int x2), .val (.ref st), .val (.ref nu), .val (.ref en), .val (.ref oa), .val (.int (k1 &&& (3 : Int32))), .val (.int (2 : Int32)), .val (.int tq)] [(.int (1 : Int32))])) _
                  refine XS.goto P309.here hx rfl (pc0 := 127) (pc' := 131) rfl (hb hby dst_127) (by decide) (by decide) ?_
                  show Steps p.tables e below (T309.setTop (mkF m 131 #[.val (.ref r), .val (.int k1), .val (.int x2), .val (.ref st), .val (.ref nu), .val (.ref en), .val (.ref oa), .val (.int (k1 &&& (3 : Int32))), .val (.int (2 : Int32)), .val (.int tq)] [(.int (1 : Int32))])) _
                  exact kQ
                show OwnDone p e below _ (T309.setTop (mkF m 131 #[.val (.ref r), .val (.int k1), .val (.int x2), .val (.ref st), .val (.ref nu), .val (.ref en), .val (.ref oa), .val (.int (k1 &&& (3 : Int32))), .val (.int (2 : Int32)), .val (.int tq)] [(.int (1 : Int32))]))
                refine own_retN C P309 (by simp) (z' := (1 : Int32)) (by decide) dst_131 (by decide) (by decide) ?_
                refine ⟨rfl, vd, sl, ow, sz, rr, vv, ff, tt, oo, ww, (.ref b0), s1, Ob, YaR, YaV, YaF, YaT, YaO, YaW, Yst, Yen, ⟨lR, lV, lF, lT, lO, lW⟩, ?_, ?_, ?_, ?_⟩
                · exact ⟨bs.1, by have := bs.2; omega⟩
                · exact ⟨bo.1, by have := bo.2; omega⟩
                · exact I1.imp id fun ⟨q1, q2, q3, q4, q5⟩ => ⟨q1, q2, q3, q4, q5⟩
                · exact Or.inr ⟨j1, b0, f, rfl, j2, j3, Or.inl ⟨j4, j5, j6⟩⟩
              · obtain ⟨j4, j5⟩ := j4
                show OwnDone p e below _ (T308.setTop (mkF m 116 #[.val (.ref r), .val (.int k1), .val (.int x2), .val (.ref st), .val (.ref nu), .val (.ref en), .val (.ref oa), .val (.int (k1 &&& (3 : Int32))), .val (.int (2 : Int32)), .val (.int tq)] []))
                refine OwnDone.go (A := (T308.setTop (mkF m 117 #[.val (.ref r), .val (.int k1), .val (.int x2), .val (.ref st), .val (.ref nu), .val (.ref en), .val (.ref oa), .val (.int (k1 &&& (3 : Int32))), .val (.int (2 : Int32)), .val (.int tq)] [(.ref r)]))) (fun tQ kQ => ?_) ?_
                · refine XS.aloadN P308.here hx rfl (hb hby dst_116) rfl rfl ?_
                  show Steps p.tables e below (T308.setTop (mkF m 117 #[.val (.ref r), .val (.int k1), .val (.int x2), .val (.ref st), .val (.ref nu), .val (.ref en), .val (.ref oa), .val (.int (k1 &&& (3 : Int32))), .val (.int (2 : Int32)), .val (.int tq)] [(.ref r)])) _
                  exact kQ
                show OwnDone p e below _ (T308.setTop (mkF m 117 #[.val (.ref r), .val (.int k1), .val (.int x2), .val (.ref st), .val (.ref nu), .val (.ref en), .val (.ref oa), .val (.int (k1 &&& (3 : Int32))), .val (.int (2 : Int32)), .val (.int tq)] [(.ref r)]))
                refine own_callV (y := (⟨"com/example/tidx/tidx/index/Run", "first", "()[Ljava/lang/Object;"⟩ : MethodName)) (z := (⟨"com/example/tidx/tidx/index/Run", "first", "()[Ljava/lang/Object;"⟩ : MethodName)) (CC := "com/example/tidx/tidx/index/Run") C P308 Ob.1 (hw _ (List.mem_of_getElem? (i := 34) rfl)) (hw _ (List.mem_of_getElem? (i := 35) rfl)) (hw _ (List.mem_of_getElem? (i := 37) rfl)) (hw _ (List.mem_of_getElem? (i := 37) rfl)) (hw _ (List.mem_of_getElem? (i := 36) rfl)) (hw _ (List.mem_of_getElem? (i := 8) rfl)) (hw _ (List.mem_of_getElem? (i := 38) rfl)) (by decide) (rmfb l Z a0 hw r aR aV aF aT aO aW kV kF kE vd sl ow sz vv ff [(.ref e0), (.ref e1), (.ref e2), (.ref e3)] en b0 f h0 P308.old Ob YaV YaF Yen j1 j4 j2 j3 j5) (as := []) (rest := []) pd_4 rfl rfl (wd := 0) rfl rfl dst_117 all0 (by decide) (by decide) (by decide) (by decide) (fun T310 h310 v310 P310 K310 hQ310 => ?_)
                obtain ⟨rfl, rfl⟩ := hQ310
                show OwnDone p e below _ (T310.setTop (mkF m 120 #[.val (.ref r), .val (.int k1), .val (.int x2), .val (.ref st), .val (.ref nu), .val (.ref en), .val (.ref oa), .val (.int (k1 &&& (3 : Int32))), .val (.int (2 : Int32)), .val (.int tq)] [(.ref b0)]))
                refine OwnDone.go (A := (T310.setTop (mkF m 123 #[.val (.ref r), .val (.int k1), .val (.int x2), .val (.ref st), .val (.ref nu), .val (.ref en), .val (.ref oa), .val (.int (k1 &&& (3 : Int32))), .val (.int (2 : Int32)), .val (.int tq)] [(.ref b0), (.ref b0)]))) (fun tQ kQ => ?_) ?_
                · refine XS.aloadN P310.here hx rfl (hb hby dst_120) rfl rfl ?_
                  show Steps p.tables e below (T310.setTop (mkF m 121 #[.val (.ref r), .val (.int k1), .val (.int x2), .val (.ref st), .val (.ref nu), .val (.ref en), .val (.ref oa), .val (.int (k1 &&& (3 : Int32))), .val (.int (2 : Int32)), .val (.int tq)] [(.ref st), (.ref b0)])) _
                  refine XS.iconst P310.here hx rfl (hb hby dst_121) ?_
                  show Steps p.tables e below (T310.setTop (mkF m 122 #[.val (.ref r), .val (.int k1), .val (.int x2), .val (.ref st), .val (.ref nu), .val (.ref en), .val (.ref oa), .val (.int (k1 &&& (3 : Int32))), .val (.int (2 : Int32)), .val (.int tq)] [(.int (0 : Int32)), (.ref st), (.ref b0)])) _
                  refine own_aaload C P310 Yst rfl (by decide) rfl dst_122 ?_
                  show Steps p.tables e below (T310.setTop (mkF m 123 #[.val (.ref r), .val (.int k1), .val (.int x2), .val (.ref st), .val (.ref nu), .val (.ref en), .val (.ref oa), .val (.int (k1 &&& (3 : Int32))), .val (.int (2 : Int32)), .val (.int tq)] [(.ref b0), (.ref b0)])) _
                  exact kQ
                show OwnDone p e below _ (T310.setTop (mkF m 123 #[.val (.ref r), .val (.int k1), .val (.int x2), .val (.ref st), .val (.ref nu), .val (.ref en), .val (.ref oa), .val (.int (k1 &&& (3 : Int32))), .val (.int (2 : Int32)), .val (.int tq)] [(.ref b0), (.ref b0)]))
                refine OwnDone.go (A := (T310.setTop (mkF m 126 #[.val (.ref r), .val (.int k1), .val (.int x2), .val (.ref st), .val (.ref nu), .val (.ref en), .val (.ref oa), .val (.int (k1 &&& (3 : Int32))), .val (.int (2 : Int32)), .val (.int tq)] []))) (fun tQ kQ => XT.acmpNo P310.here hx rfl (hb hby dst_123) rfl rfl rfl (XT.aa_ne_f rfl) kQ) ?_
                show OwnDone p e below _ (T310.setTop (mkF m 126 #[.val (.ref r), .val (.int k1), .val (.int x2), .val (.ref st), .val (.ref nu), .val (.ref en), .val (.ref oa), .val (.int (k1 &&& (3 : Int32))), .val (.int (2 : Int32)), .val (.int tq)] []))
                refine OwnDone.go (A := (T310.setTop (mkF m 131 #[.val (.ref r), .val (.int k1), .val (.int x2), .val (.ref st), .val (.ref nu), .val (.ref en), .val (.ref oa), .val (.int (k1 &&& (3 : Int32))), .val (.int (2 : Int32)), .val (.int tq)] [(.int (1 : Int32))]))) (fun tQ kQ => ?_) ?_
                · refine XS.iconst P310.here hx rfl (hb hby dst_126) ?_
                  show Steps p.tables e below (T310.setTop (mkF m 127 #[.val (.ref r), .val (.int k1), .val (.int x2), .val (.ref st), .val (.ref nu), .val (.ref en), .val (.ref oa), .val (.int (k1 &&& (3 : Int32))), .val (.int (2 : Int32)), .val (.int tq)] [(.int (1 : Int32))])) _
                  refine XS.goto P310.here hx rfl (pc0 := 127) (pc' := 131) rfl (hb hby dst_127) (by decide) (by decide) ?_
                  show Steps p.tables e below (T310.setTop (mkF m 131 #[.val (.ref r), .val (.int k1), .val (.int x2), .val (.ref st), .val (.ref nu), .val (.ref en), .val (.ref oa), .val (.int (k1 &&& (3 : Int32))), .val (.int (2 : Int32)), .val (.int tq)] [(.int (1 : Int32))])) _
                  exact kQ
                show OwnDone p e below _ (T310.setTop (mkF m 131 #[.val (.ref r), .val (.int k1), .val (.int x2), .val (.ref st), .val (.ref nu), .val (.ref en), .val (.ref oa), .val (.int (k1 &&& (3 : Int32))), .val (.int (2 : Int32)), .val (.int tq)] [(.int (1 : Int32))]))
                refine own_retN C P310 (by simp) (z' := (1 : Int32)) (by decide) dst_131 (by decide) (by decide) ?_
                refine ⟨rfl, vd, sl, ow, sz, rr, vv, ff, tt, oo, ww, (.ref b0), s1, Ob, YaR, YaV, YaF, YaT, YaO, YaW, Yst, Yen, ⟨lR, lV, lF, lT, lO, lW⟩, ?_, ?_, ?_, ?_⟩
                · exact ⟨bs.1, by have := bs.2; omega⟩
                · exact ⟨bo.1, by have := bo.2; omega⟩
                · exact I1.imp id fun ⟨q1, q2, q3, q4, q5⟩ => ⟨q1, q2, q3, q4, q5⟩
                · exact Or.inr ⟨j1, b0, f, rfl, j2, j3, Or.inr ⟨j4, j5⟩⟩
        · rw [hs4]
          show OwnDone p e below _ (T.setTop (mkF m 54 #[.val (.ref r), .val (.int k1), .val (.int x2), .val (.ref st), .val (.ref nu), .val (.ref en), .val (.ref oa), .val (.int (k1 &&& (3 : Int32))), .unset, .unset] [(.int (3 : Int32))]))
          refine OwnDone.go (A := (T.setTop (mkF m 63 #[.val (.ref r), .val (.int k1), .val (.int x2), .val (.ref st), .val (.ref nu), .val (.ref en), .val (.ref oa), .val (.int (k1 &&& (3 : Int32))), .val (.int (3 : Int32)), .unset] [(.int (4 : Int32)), (.int ((XT.ushr k1 (4 : Int32)) &&& (7 : Int32)))]))) (fun tQ kQ => ?_) ?_
          · refine XS.istore P.here hx rfl (hb hby dst_54) rfl (l' := #[.val (.ref r), .val (.int k1), .val (.int x2), .val (.ref st), .val (.ref nu), .val (.ref en), .val (.ref oa), .val (.int (k1 &&& (3 : Int32))), .val (.int (3 : Int32)), .unset]) rfl ?_
            show Steps p.tables e below (T.setTop (mkF m 56 #[.val (.ref r), .val (.int k1), .val (.int x2), .val (.ref st), .val (.ref nu), .val (.ref en), .val (.ref oa), .val (.int (k1 &&& (3 : Int32))), .val (.int (3 : Int32)), .unset] [])) _
            refine XS.iloadN P.here hx rfl (hb hby dst_56) rfl ?_
            show Steps p.tables e below (T.setTop (mkF m 57 #[.val (.ref r), .val (.int k1), .val (.int x2), .val (.ref st), .val (.ref nu), .val (.ref en), .val (.ref oa), .val (.int (k1 &&& (3 : Int32))), .val (.int (3 : Int32)), .unset] [(.int k1)])) _
            refine XS.iconst P.here hx rfl (hb hby dst_57) ?_
            show Steps p.tables e below (T.setTop (mkF m 58 #[.val (.ref r), .val (.int k1), .val (.int x2), .val (.ref st), .val (.ref nu), .val (.ref en), .val (.ref oa), .val (.int (k1 &&& (3 : Int32))), .val (.int (3 : Int32)), .unset] [(.int (4 : Int32)), (.int k1)])) _
            refine XT.iushr P.here hx rfl (hb hby dst_58) rfl ?_
            show Steps p.tables e below (T.setTop (mkF m 59 #[.val (.ref r), .val (.int k1), .val (.int x2), .val (.ref st), .val (.ref nu), .val (.ref en), .val (.ref oa), .val (.int (k1 &&& (3 : Int32))), .val (.int (3 : Int32)), .unset] [(.int (XT.ushr k1 (4 : Int32)))])) _
            refine XS.bipush P.here hx rfl (hb hby dst_59) ?_
            show Steps p.tables e below (T.setTop (mkF m 61 #[.val (.ref r), .val (.int k1), .val (.int x2), .val (.ref st), .val (.ref nu), .val (.ref en), .val (.ref oa), .val (.int (k1 &&& (3 : Int32))), .val (.int (3 : Int32)), .unset] [(.int (7 : Int32)), (.int (XT.ushr k1 (4 : Int32)))])) _
            refine XS.iand P.here hx rfl (hb hby dst_61) rfl ?_
            show Steps p.tables e below (T.setTop (mkF m 62 #[.val (.ref r), .val (.int k1), .val (.int x2), .val (.ref st), .val (.ref nu), .val (.ref en), .val (.ref oa), .val (.int (k1 &&& (3 : Int32))), .val (.int (3 : Int32)), .unset] [(.int ((XT.ushr k1 (4 : Int32)) &&& (7 : Int32)))])) _
            refine XS.iconst P.here hx rfl (hb hby dst_62) ?_
            show Steps p.tables e below (T.setTop (mkF m 63 #[.val (.ref r), .val (.int k1), .val (.int x2), .val (.ref st), .val (.ref nu), .val (.ref en), .val (.ref oa), .val (.int (k1 &&& (3 : Int32))), .val (.int (3 : Int32)), .unset] [(.int (4 : Int32)), (.int ((XT.ushr k1 (4 : Int32)) &&& (7 : Int32)))])) _
            exact kQ
          show OwnDone p e below _ (T.setTop (mkF m 63 #[.val (.ref r), .val (.int k1), .val (.int x2), .val (.ref st), .val (.ref nu), .val (.ref en), .val (.ref oa), .val (.int (k1 &&& (3 : Int32))), .val (.int (3 : Int32)), .unset] [(.int (4 : Int32)), (.int ((XT.ushr k1 (4 : Int32)) &&& (7 : Int32)))]))
          refine own_callS (y := (⟨"java/lang/Math", "min", "(II)I"⟩ : MethodName)) C P (hw _ (List.mem_of_getElem? (i := 77) rfl)) (hw _ (List.mem_of_getElem? (i := 78) rfl)) (hw _ (List.mem_of_getElem? (i := 79) rfl)) (hw _ (List.mem_of_getElem? (i := 80) rfl)) (by decide) (rmmin l Z a0 hw ((XT.ushr k1 (4 : Int32)) &&& (7 : Int32)) (4 : Int32) h0 P.old) (as := [(.int ((XT.ushr k1 (4 : Int32)) &&& (7 : Int32))), (.int (4 : Int32))]) (rest := []) pd_5 rfl rfl (wd := 0) rfl rfl dst_63 all0 (by decide) (by decide) (by decide) (by decide) (fun T311 h311 v311 P311 K311 hQ311 => ?_)
          obtain ⟨⟨tq, rfl⟩, rfl⟩ := hQ311
          show OwnDone p e below _ (T311.setTop (mkF m 66 #[.val (.ref r), .val (.int k1), .val (.int x2), .val (.ref st), .val (.ref nu), .val (.ref en), .val (.ref oa), .val (.int (k1 &&& (3 : Int32))), .val (.int (3 : Int32)), .unset] [(.int tq)]))
          refine OwnDone.go (A := (T311.setTop (mkF m 77 #[.val (.ref r), .val (.int k1), .val (.int x2), .val (.ref st), .val (.ref nu), .val (.ref en), .val (.ref oa), .val (.int (k1 &&& (3 : Int32))), .val (.int (3 : Int32)), .val (.int tq)] [(.int tq), (.int (3 : Int32)), (.ref en), (.ref nu), (.ref r)]))) (fun tQ kQ => ?_) ?_
          · refine XS.istore P311.here hx rfl (hb hby dst_66) rfl (l' := #[.val (.ref r), .val (.int k1), .val (.int x2), .val (.ref st), .val (.ref nu), .val (.ref en), .val (.ref oa), .val (.int (k1 &&& (3 : Int32))), .val (.int (3 : Int32)), .val (.int tq)]) rfl ?_
            show Steps p.tables e below (T311.setTop (mkF m 68 #[.val (.ref r), .val (.int k1), .val (.int x2), .val (.ref st), .val (.ref nu), .val (.ref en), .val (.ref oa), .val (.int (k1 &&& (3 : Int32))), .val (.int (3 : Int32)), .val (.int tq)] [])) _
            refine XS.aloadN P311.here hx rfl (hb hby dst_68) rfl rfl ?_
            show Steps p.tables e below (T311.setTop (mkF m 69 #[.val (.ref r), .val (.int k1), .val (.int x2), .val (.ref st), .val (.ref nu), .val (.ref en), .val (.ref oa), .val (.int (k1 &&& (3 : Int32))), .val (.int (3 : Int32)), .val (.int tq)] [(.ref r)])) _
            refine XS.aload P311.here hx rfl (hb hby dst_69) rfl rfl ?_
            show Steps p.tables e below (T311.setTop (mkF m 71 #[.val (.ref r), .val (.int k1), .val (.int x2), .val (.ref st), .val (.ref nu), .val (.ref en), .val (.ref oa), .val (.int (k1 &&& (3 : Int32))), .val (.int (3 : Int32)), .val (.int tq)] [(.ref nu), (.ref r)])) _
            refine XS.aload P311.here hx rfl (hb hby dst_71) rfl rfl ?_
            show Steps p.tables e below (T311.setTop (mkF m 73 #[.val (.ref r), .val (.int k1), .val (.int x2), .val (.ref st), .val (.ref nu), .val (.ref en), .val (.ref oa), .val (.int (k1 &&& (3 : Int32))), .val (.int (3 : Int32)), .val (.int tq)] [(.ref en), (.ref nu), (.ref r)])) _
            refine XS.iload P311.here hx rfl (hb hby dst_73) rfl ?_
            show Steps p.tables e below (T311.setTop (mkF m 75 #[.val (.ref r), .val (.int k1), .val (.int x2), .val (.ref st), .val (.ref nu), .val (.ref en), .val (.ref oa), .val (.int (k1 &&& (3 : Int32))), .val (.int (3 : Int32)), .val (.int tq)] [(.int (3 : Int32)), (.ref en), (.ref nu), (.ref r)])) _
            refine XS.iload P311.here hx rfl (hb hby dst_75) rfl ?_
            show Steps p.tables e below (T311.setTop (mkF m 77 #[.val (.ref r), .val (.int k1), .val (.int x2), .val (.ref st), .val (.ref nu), .val (.ref en), .val (.ref oa), .val (.int (k1 &&& (3 : Int32))), .val (.int (3 : Int32)), .val (.int tq)] [(.int tq), (.int (3 : Int32)), (.ref en), (.ref nu), (.ref r)])) _
            exact kQ
          show OwnDone p e below _ (T311.setTop (mkF m 77 #[.val (.ref r), .val (.int k1), .val (.int x2), .val (.ref st), .val (.ref nu), .val (.ref en), .val (.ref oa), .val (.int (k1 &&& (3 : Int32))), .val (.int (3 : Int32)), .val (.int tq)] [(.int tq), (.int (3 : Int32)), (.ref en), (.ref nu), (.ref r)]))
          by_cases hst : (3 : Int32) < tq
          · rcases I0 with I0 | I0
            · obtain ⟨j1, rfl⟩ := I0
              show OwnDone p e below _ (T311.setTop (mkF m 77 #[.val (.ref r), .val (.int k1), .val (.int x2), .val (.ref st), .val (.ref nu), .val (.ref en), .val (.ref oa), .val (.int (k1 &&& (3 : Int32))), .val (.int (3 : Int32)), .val (.int tq)] [(.int tq), (.int (3 : Int32)), (.ref en), (.ref nu), (.ref r)]))
              refine own_callV (y := (⟨"com/example/tidx/tidx/index/Run", "add", "([I[[Ljava/lang/Object;II)V"⟩ : MethodName)) (z := (⟨"com/example/tidx/tidx/index/Run", "add", "([I[[Ljava/lang/Object;II)V"⟩ : MethodName)) (CC := "com/example/tidx/tidx/index/Run") C P311 Ob.1 (hw _ (List.mem_of_getElem? (i := 81) rfl)) (hw _ (List.mem_of_getElem? (i := 82) rfl)) (hw _ (List.mem_of_getElem? (i := 84) rfl)) (hw _ (List.mem_of_getElem? (i := 84) rfl)) (hw _ (List.mem_of_getElem? (i := 83) rfl)) (hw _ (List.mem_of_getElem? (i := 8) rfl)) (hw _ (List.mem_of_getElem? (i := 85) rfl)) (by decide) (rmal l Z a0 hw r nu en (3 : Int32) tq aR aV aF aT aO aW kR kV kF kT vd sl ow sz rr vv ff tt h0 P311.old g_r g_aR g_aV g_aF g_aT hst Ob YaR lR YaV lV YaF lF YaT lT (by omega) (by omega) (by omega) (by omega) s1_ s2_ In Ie VR VV) (as := [(.ref nu), (.ref en), (.int (3 : Int32)), (.int tq)]) (rest := []) pd_0 rfl rfl (wd := 0) rfl rfl dst_77 (allS (Or.inl (List.mem_of_getElem? (i := 1) rfl)) (allS (Or.inl (List.mem_of_getElem? (i := 2) rfl)) (allS (Or.inl (List.mem_of_getElem? (i := 3) rfl)) (allS (Or.inl (List.mem_of_getElem? (i := 4) rfl)) (allS (Or.inl (List.mem_of_getElem? (i := 5) rfl)) all0))))) (by decide) (by decide) (by decide) (by decide) (fun T312 h312 v312 P312 K312 hQ312 => ?_)
              obtain ⟨rfl, Ob312, YaR312, YaV312, YaF312, YaT312⟩ := hQ312
              have I313_nu := own_insK In K312
              have I314_en := own_insK Ie K312
              have I315_oa := own_insK Ia K312
              have I316_oa := own_insK Ib K312
              have I317_e0 := own_insK Ie0 K312
              have I318_e1 := own_insK Ie1 K312
              have I319_e2 := own_insK Ie2 K312
              have I320_e3 := own_insK Ie3 K312
              have Y321_aO := YaO.keep K312 (ninS (own_neL (by omega)) (ninS (own_neL (by omega)) (ninS (own_neL (by omega)) (ninS (own_neL (by omega)) (ninS (own_neL (by omega)) nin0)))))
              have Y322_aW := YaW.keep K312 (ninS (own_neL (by omega)) (ninS (own_neL (by omega)) (ninS (own_neL (by omega)) (ninS (own_neL (by omega)) (ninS (own_neL (by omega)) nin0)))))
              have Y323_st := Yst.keep K312 (ninS (own_neL (by omega)) (ninS (own_neL (by omega)) (ninS (own_neL (by omega)) (ninS (own_neL (by omega)) (ninS (own_neL (by omega)) nin0)))))
              have Y324_en := Yen.keep K312 (ninS (own_neL (by omega)) (ninS (own_neL (by omega)) (ninS (own_neL (by omega)) (ninS (own_neL (by omega)) (ninS (own_neL (by omega)) nin0)))))
              have laR312 : (rr.set (sl).toNatClampNeg (.ref nu)).length = 4 := by rw [List.length_set]; exact lR
              have laV312 : (vv.set (sl).toNatClampNeg (.ref en)).length = 4 := by rw [List.length_set]; exact lV
              have laF312 : (ff.set (sl).toNatClampNeg (.int (3 : Int32))).length = 4 := by rw [List.length_set]; exact lF
              have laT312 : (tt.set (sl).toNatClampNeg (.int tq)).length = 4 := by rw [List.length_set]; exact lT
              show OwnDone p e below _ (T312.setTop (mkF m 80 #[.val (.ref r), .val (.int k1), .val (.int x2), .val (.ref st), .val (.ref nu), .val (.ref en), .val (.ref oa), .val (.int (k1 &&& (3 : Int32))), .val (.int (3 : Int32)), .val (.int tq)] []))
              refine OwnDone.go (A := (T312.setTop (mkF m 84 #[.val (.ref r), .val (.int k1), .val (.int x2), .val (.ref st), .val (.ref nu), .val (.ref en), .val (.ref oa), .val (.int (k1 &&& (3 : Int32))), .val (.int (3 : Int32)), .val (.int tq)] [(.int tq), (.int (3 : Int32))]))) (fun tQ kQ => ?_) ?_
              · refine XS.iload P312.here hx rfl (hb hby dst_80) rfl ?_
                show Steps p.tables e below (T312.setTop (mkF m 82 #[.val (.ref r), .val (.int k1), .val (.int x2), .val (.ref st), .val (.ref nu), .val (.ref en), .val (.ref oa), .val (.int (k1 &&& (3 : Int32))), .val (.int (3 : Int32)), .val (.int tq)] [(.int (3 : Int32))])) _
                refine XS.iload P312.here hx rfl (hb hby dst_82) rfl ?_
                show Steps p.tables e below (T312.setTop (mkF m 84 #[.val (.ref r), .val (.int k1), .val (.int x2), .val (.ref st), .val (.ref nu), .val (.ref en), .val (.ref oa), .val (.int (k1 &&& (3 : Int32))), .val (.int (3 : Int32)), .val (.int tq)] [(.int tq), (.int (3 : Int32))])) _
                exact kQ
              show OwnDone p e below _ (T312.setTop (mkF m 84 #[.val (.ref r), .val (.int k1), .val (.int x2), .val (.ref st), .val (.ref nu), .val (.ref en), .val (.ref oa), .val (.int (k1 &&& (3 : Int32))), .val (.int (3 : Int32)), .val (.int tq)] [(.int tq), (.int (3 : Int32))]))
              refine OwnDone.go (A := (T312.setTop (mkF m 87 #[.val (.ref r), .val (.int k1), .val (.int x2), .val (.ref st), .val (.ref nu), .val (.ref en), .val (.ref oa), .val (.int (k1 &&& (3 : Int32))), .val (.int (3 : Int32)), .val (.int tq)] []))) (fun tQ kQ => XS.icmpNo P312.here hx rfl (hb hby dst_84) rfl (XT.ii_ge_f hst) kQ) ?_
              show OwnDone p e below _ (T312.setTop (mkF m 87 #[.val (.ref r), .val (.int k1), .val (.int x2), .val (.ref st), .val (.ref nu), .val (.ref en), .val (.ref oa), .val (.int (k1 &&& (3 : Int32))), .val (.int (3 : Int32)), .val (.int tq)] []))
              refine OwnDone.go (A := (T312.setTop (mkF m 90 #[.val (.ref r), .val (.int k1), .val (.int x2), .val (.ref st), .val (.ref nu), .val (.ref en), .val (.ref oa), .val (.int (k1 &&& (3 : Int32))), .val (.int (3 : Int32)), .val (.int tq)] [.null]))) (fun tQ kQ => ?_) ?_
              · refine XS.aloadN P312.here hx rfl (hb hby dst_87) rfl rfl ?_
                show Steps p.tables e below (T312.setTop (mkF m 88 #[.val (.ref r), .val (.int k1), .val (.int x2), .val (.ref st), .val (.ref nu), .val (.ref en), .val (.ref oa), .val (.int (k1 &&& (3 : Int32))), .val (.int (3 : Int32)), .val (.int tq)] [(.ref st)])) _
                refine XS.iconst P312.here hx rfl (hb hby dst_88) ?_
                show Steps p.tables e below (T312.setTop (mkF m 89 #[.val (.ref r), .val (.int k1), .val (.int x2), .val (.ref st), .val (.ref nu), .val (.ref en), .val (.ref oa), .val (.int (k1 &&& (3 : Int32))), .val (.int (3 : Int32)), .val (.int tq)] [(.int (0 : Int32)), (.ref st)])) _
                refine own_aaload C P312 Y323_st rfl (by decide) rfl dst_89 ?_
                show Steps p.tables e below (T312.setTop (mkF m 90 #[.val (.ref r), .val (.int k1), .val (.int x2), .val (.ref st), .val (.ref nu), .val (.ref en), .val (.ref oa), .val (.int (k1 &&& (3 : Int32))), .val (.int (3 : Int32)), .val (.int tq)] [.null])) _
                exact kQ
              show OwnDone p e below _ (T312.setTop (mkF m 90 #[.val (.ref r), .val (.int k1), .val (.int x2), .val (.ref st), .val (.ref nu), .val (.ref en), .val (.ref oa), .val (.int (k1 &&& (3 : Int32))), .val (.int (3 : Int32)), .val (.int tq)] [.null]))
              refine OwnDone.go (A := (T312.setTop (mkF m 93 #[.val (.ref r), .val (.int k1), .val (.int x2), .val (.ref st), .val (.ref nu), .val (.ref en), .val (.ref oa), .val (.int (k1 &&& (3 : Int32))), .val (.int (3 : Int32)), .val (.int tq)] []))) (fun tQ kQ => XT.ifnonnullNo P312.here hx rfl (hb hby dst_90) rfl kQ) ?_
              show OwnDone p e below _ (T312.setTop (mkF m 93 #[.val (.ref r), .val (.int k1), .val (.int x2), .val (.ref st), .val (.ref nu), .val (.ref en), .val (.ref oa), .val (.int (k1 &&& (3 : Int32))), .val (.int (3 : Int32)), .val (.int tq)] []))
              refine OwnDone.go (A := (T312.setTop (mkF m 100 #[.val (.ref r), .val (.int k1), .val (.int x2), .val (.ref st), .val (.ref nu), .val (.ref en), .val (.ref oa), .val (.int (k1 &&& (3 : Int32))), .val (.int (3 : Int32)), .val (.int tq)] [(.ref e3), (.int (0 : Int32)), (.ref st)]))) (fun tQ kQ => ?_) ?_
              · refine XS.aloadN P312.here hx rfl (hb hby dst_93) rfl rfl ?_
                show Steps p.tables e below (T312.setTop (mkF m 94 #[.val (.ref r), .val (.int k1), .val (.int x2), .val (.ref st), .val (.ref nu), .val (.ref en), .val (.ref oa), .val (.int (k1 &&& (3 : Int32))), .val (.int (3 : Int32)), .val (.int tq)] [(.ref st)])) _
                refine XS.iconst P312.here hx rfl (hb hby dst_94) ?_
                show Steps p.tables e below (T312.setTop (mkF m 95 #[.val (.ref r), .val (.int k1), .val (.int x2), .val (.ref st), .val (.ref nu), .val (.ref en), .val (.ref oa), .val (.int (k1 &&& (3 : Int32))), .val (.int (3 : Int32)), .val (.int tq)] [(.int (0 : Int32)), (.ref st)])) _
                refine XS.aload P312.here hx rfl (hb hby dst_95) rfl rfl ?_
                show Steps p.tables e below (T312.setTop (mkF m 97 #[.val (.ref r), .val (.int k1), .val (.int x2), .val (.ref st), .val (.ref nu), .val (.ref en), .val (.ref oa), .val (.int (k1 &&& (3 : Int32))), .val (.int (3 : Int32)), .val (.int tq)] [(.ref en), (.int (0 : Int32)), (.ref st)])) _
                refine XS.iload P312.here hx rfl (hb hby dst_97) rfl ?_
                show Steps p.tables e below (T312.setTop (mkF m 99 #[.val (.ref r), .val (.int k1), .val (.int x2), .val (.ref st), .val (.ref nu), .val (.ref en), .val (.ref oa), .val (.int (k1 &&& (3 : Int32))), .val (.int (3 : Int32)), .val (.int tq)] [(.int (3 : Int32)), (.ref en), (.int (0 : Int32)), (.ref st)])) _
                refine own_aaload C P312 Y324_en rfl (by decide) rfl dst_99 ?_
                show Steps p.tables e below (T312.setTop (mkF m 100 #[.val (.ref r), .val (.int k1), .val (.int x2), .val (.ref st), .val (.ref nu), .val (.ref en), .val (.ref oa), .val (.int (k1 &&& (3 : Int32))), .val (.int (3 : Int32)), .val (.int tq)] [(.ref e3), (.int (0 : Int32)), (.ref st)])) _
                exact kQ
              show OwnDone p e below _ (T312.setTop (mkF m 100 #[.val (.ref r), .val (.int k1), .val (.int x2), .val (.ref st), .val (.ref nu), .val (.ref en), .val (.ref oa), .val (.int (k1 &&& (3 : Int32))), .val (.int (3 : Int32)), .val (.int tq)] [(.ref e3), (.int (0 : Int32)), (.ref st)]))
              refine own_aastore C P312 Y323_st rfl (by decide) (show ((0 : Int32) : Int32).toNatClampNeg < 2 from by decide) (Y323_st.sto VS I320_e3) (Or.inl (List.mem_of_getElem? (i := 0) rfl)) dst_100 (vs' := [(.ref e3), s1]) rfl (fun T325 h325 P325 K325 Y325 => ?_)
              have I326_nu := own_insK I313_nu K325
              have I327_en := own_insK I314_en K325
              have I328_oa := own_insK I315_oa K325
              have I329_oa := own_insK I316_oa K325
              have I330_e0 := own_insK I317_e0 K325
              have I331_e1 := own_insK I318_e1 K325
              have I332_e2 := own_insK I319_e2 K325
              have I333_e3 := own_insK I320_e3 K325
              have O334_r := Ob312.keep K325 (ninS (own_neL (by omega)) nin0)
              have Y335_aR := YaR312.keep K325 (ninS (own_neL (by omega)) nin0)
              have Y336_aV := YaV312.keep K325 (ninS (own_neL (by omega)) nin0)
              have Y337_aF := YaF312.keep K325 (ninS (own_neL (by omega)) nin0)
              have Y338_aT := YaT312.keep K325 (ninS (own_neL (by omega)) nin0)
              have Y339_aO := Y321_aO.keep K325 (ninS (own_neL (by omega)) nin0)
              have Y340_aW := Y322_aW.keep K325 (ninS (own_neL (by omega)) nin0)
              have Y341_en := Y324_en.keep K325 (ninS (own_neL (by omega)) nin0)
              show OwnDone p e below _ (T325.setTop (mkF m 101 #[.val (.ref r), .val (.int k1), .val (.int x2), .val (.ref st), .val (.ref nu), .val (.ref en), .val (.ref oa), .val (.int (k1 &&& (3 : Int32))), .val (.int (3 : Int32)), .val (.int tq)] []))
              refine OwnDone.go (A := (T325.setTop (mkF m 116 #[.val (.ref r), .val (.int k1), .val (.int x2), .val (.ref st), .val (.ref nu), .val (.ref en), .val (.ref oa), .val (.int (k1 &&& (3 : Int32))), .val (.int (3 : Int32)), .val (.int tq)] []))) (fun tQ kQ => ?_) ?_
              · refine XS.goto P325.here hx rfl (pc0 := 101) (pc' := 116) rfl (hb hby dst_101) (by decide) (by decide) ?_
                show Steps p.tables e below (T325.setTop (mkF m 116 #[.val (.ref r), .val (.int k1), .val (.int x2), .val (.ref st), .val (.ref nu), .val (.ref en), .val (.ref oa), .val (.int (k1 &&& (3 : Int32))), .val (.int (3 : Int32)), .val (.int tq)] [])) _
                exact kQ
              show OwnDone p e below _ (T325.setTop (mkF m 116 #[.val (.ref r), .val (.int k1), .val (.int x2), .val (.ref st), .val (.ref nu), .val (.ref en), .val (.ref oa), .val (.int (k1 &&& (3 : Int32))), .val (.int (3 : Int32)), .val (.int tq)] []))
              refine OwnDone.go (A := (T325.setTop (mkF m 117 #[.val (.ref r), .val (.int k1), .val (.int x2), .val (.ref st), .val (.ref nu), .val (.ref en), .val (.ref oa), .val (.int (k1 &&& (3 : Int32))), .val (.int (3 : Int32)), .val (.int tq)] [(.ref r)]))) (fun tQ kQ => ?_) ?_
              · refine XS.aloadN P325.here hx rfl (hb hby dst_116) rfl rfl ?_
                show Steps p.tables e below (T325.setTop (mkF m 117 #[.val (.ref r), .val (.int k1), .val (.int x2), .val (.ref st), .val (.ref nu), .val (.ref en), .val (.ref oa), .val (.int (k1 &&& (3 : Int32))), .val (.int (3 : Int32)), .val (.int tq)] [(.ref r)])) _
                exact kQ
              show OwnDone p e below _ (T325.setTop (mkF m 117 #[.val (.ref r), .val (.int k1), .val (.int x2), .val (.ref st), .val (.ref nu), .val (.ref en), .val (.ref oa), .val (.int (k1 &&& (3 : Int32))), .val (.int (3 : Int32)), .val (.int tq)] [(.ref r)]))
              refine own_callV (y := (⟨"com/example/tidx/tidx/index/Run", "first", "()[Ljava/lang/Object;"⟩ : MethodName)) (z := (⟨"com/example/tidx/tidx/index/Run", "first", "()[Ljava/lang/Object;"⟩ : MethodName)) (CC := "com/example/tidx/tidx/index/Run") C P325 O334_r.1 (hw _ (List.mem_of_getElem? (i := 34) rfl)) (hw _ (List.mem_of_getElem? (i := 35) rfl)) (hw _ (List.mem_of_getElem? (i := 37) rfl)) (hw _ (List.mem_of_getElem? (i := 37) rfl)) (hw _ (List.mem_of_getElem? (i := 36) rfl)) (hw _ (List.mem_of_getElem? (i := 8) rfl)) (hw _ (List.mem_of_getElem? (i := 38) rfl)) (by decide) (rmfb l Z a0 hw r aR aV aF aT aO aW kV kF kE vd (sl + (1 : Int32)) ow (sz + (tq - (3 : Int32))) (vv.set (sl).toNatClampNeg (.ref en)) (ff.set (sl).toNatClampNeg (.int (3 : Int32))) [(.ref e0), (.ref e1), (.ref e2), (.ref e3)] en e3 (3 : Int32) h325 P325.old O334_r Y336_aV Y337_aF Y341_en (own_incNe bs (by omega)) (by rw [j1]; exact List.getElem?_set_self (by rw [lV]; decide)) (by rw [j1]; exact List.getElem?_set_self (by rw [lF]; decide)) (by decide) rfl) (as := []) (rest := []) pd_4 rfl rfl (wd := 0) rfl rfl dst_117 all0 (by decide) (by decide) (by decide) (by decide) (fun T342 h342 v342 P342 K342 hQ342 => ?_)
              obtain ⟨rfl, rfl⟩ := hQ342
              show OwnDone p e below _ (T342.setTop (mkF m 120 #[.val (.ref r), .val (.int k1), .val (.int x2), .val (.ref st), .val (.ref nu), .val (.ref en), .val (.ref oa), .val (.int (k1 &&& (3 : Int32))), .val (.int (3 : Int32)), .val (.int tq)] [(.ref e3)]))
              refine OwnDone.go (A := (T342.setTop (mkF m 123 #[.val (.ref r), .val (.int k1), .val (.int x2), .val (.ref st), .val (.ref nu), .val (.ref en), .val (.ref oa), .val (.int (k1 &&& (3 : Int32))), .val (.int (3 : Int32)), .val (.int tq)] [(.ref e3), (.ref e3)]))) (fun tQ kQ => ?_) ?_
              · refine XS.aloadN P342.here hx rfl (hb hby dst_120) rfl rfl ?_
                show Steps p.tables e below (T342.setTop (mkF m 121 #[.val (.ref r), .val (.int k1), .val (.int x2), .val (.ref st), .val (.ref nu), .val (.ref en), .val (.ref oa), .val (.int (k1 &&& (3 : Int32))), .val (.int (3 : Int32)), .val (.int tq)] [(.ref st), (.ref e3)])) _
                refine XS.iconst P342.here hx rfl (hb hby dst_121) ?_
                show Steps p.tables e below (T342.setTop (mkF m 122 #[.val (.ref r), .val (.int k1), .val (.int x2), .val (.ref st), .val (.ref nu), .val (.ref en), .val (.ref oa), .val (.int (k1 &&& (3 : Int32))), .val (.int (3 : Int32)), .val (.int tq)] [(.int (0 : Int32)), (.ref st), (.ref e3)])) _
                refine own_aaload C P342 Y325 rfl (by decide) rfl dst_122 ?_
                show Steps p.tables e below (T342.setTop (mkF m 123 #[.val (.ref r), .val (.int k1), .val (.int x2), .val (.ref st), .val (.ref nu), .val (.ref en), .val (.ref oa), .val (.int (k1 &&& (3 : Int32))), .val (.int (3 : Int32)), .val (.int tq)] [(.ref e3), (.ref e3)])) _
                exact kQ
              show OwnDone p e below _ (T342.setTop (mkF m 123 #[.val (.ref r), .val (.int k1), .val (.int x2), .val (.ref st), .val (.ref nu), .val (.ref en), .val (.ref oa), .val (.int (k1 &&& (3 : Int32))), .val (.int (3 : Int32)), .val (.int tq)] [(.ref e3), (.ref e3)]))
              refine OwnDone.go (A := (T342.setTop (mkF m 126 #[.val (.ref r), .val (.int k1), .val (.int x2), .val (.ref st), .val (.ref nu), .val (.ref en), .val (.ref oa), .val (.int (k1 &&& (3 : Int32))), .val (.int (3 : Int32)), .val (.int tq)] []))) (fun tQ kQ => XT.acmpNo P342.here hx rfl (hb hby dst_123) rfl rfl rfl (XT.aa_ne_f rfl) kQ) ?_
              show OwnDone p e below _ (T342.setTop (mkF m 126 #[.val (.ref r), .val (.int k1), .val (.int x2), .val (.ref st), .val (.ref nu), .val (.ref en), .val (.ref oa), .val (.int (k1 &&& (3 : Int32))), .val (.int (3 : Int32)), .val (.int tq)] []))
              refine OwnDone.go (A := (T342.setTop (mkF m 131 #[.val (.ref r), .val (.int k1), .val (.int x2), .val (.ref st), .val (.ref nu), .val (.ref en), .val (.ref oa), .val (.int (k1 &&& (3 : Int32))), .val (.int (3 : Int32)), .val (.int tq)] [(.int (1 : Int32))]))) (fun tQ kQ => ?_) ?_
              · refine XS.iconst P342.here hx rfl (hb hby dst_126) ?_
                show Steps p.tables e below (T342.setTop (mkF m 127 #[.val (.ref r), .val (.int k1), .val (.int x2), .val (.ref st), .val (.ref nu), .val (.ref en), .val (.ref oa), .val (.int (k1 &&& (3 : Int32))), .val (.int (3 : Int32)), .val (.int tq)] [(.int (1 : Int32))])) _
                refine XS.goto P342.here hx rfl (pc0 := 127) (pc' := 131) rfl (hb hby dst_127) (by decide) (by decide) ?_
                show Steps p.tables e below (T342.setTop (mkF m 131 #[.val (.ref r), .val (.int k1), .val (.int x2), .val (.ref st), .val (.ref nu), .val (.ref en), .val (.ref oa), .val (.int (k1 &&& (3 : Int32))), .val (.int (3 : Int32)), .val (.int tq)] [(.int (1 : Int32))])) _
                exact kQ
              show OwnDone p e below _ (T342.setTop (mkF m 131 #[.val (.ref r), .val (.int k1), .val (.int x2), .val (.ref st), .val (.ref nu), .val (.ref en), .val (.ref oa), .val (.int (k1 &&& (3 : Int32))), .val (.int (3 : Int32)), .val (.int tq)] [(.int (1 : Int32))]))
              refine own_retN C P342 (by simp) (z' := (1 : Int32)) (by decide) dst_131 (by decide) (by decide) ?_
              refine ⟨rfl, vd, (sl + (1 : Int32)), ow, (sz + (tq - (3 : Int32))), (rr.set (sl).toNatClampNeg (.ref nu)), (vv.set (sl).toNatClampNeg (.ref en)), (ff.set (sl).toNatClampNeg (.int (3 : Int32))), (tt.set (sl).toNatClampNeg (.int tq)), oo, ww, (.ref e3), s1, O334_r, Y335_aR, Y336_aV, Y337_aF, Y338_aT, Y339_aO, Y340_aW, Y325, Y341_en, ⟨laR312, laV312, laF312, laT312, lO, lW⟩, ?_, ?_, ?_, ?_⟩
              · exact own_inc bs (by omega)
              · exact ⟨bo.1, by have := bo.2; omega⟩
              · exact I1.imp id fun ⟨q1, q2, q3, q4, q5⟩ => ⟨q1, q2, q3, q4, (own_insK (own_insK q5 K312) K325)⟩
              · exact Or.inr ⟨own_incNe bs (by omega), e3, (3 : Int32), rfl, (by rw [j1]; exact List.getElem?_set_self (by rw [lF]; decide)), by decide, Or.inr ⟨(by rw [j1]; exact List.getElem?_set_self (by rw [lV]; decide)), rfl⟩⟩
            · obtain ⟨j1, b0, f, rfl, j2, j3, j4⟩ := I0
              show OwnDone p e below _ (T311.setTop (mkF m 77 #[.val (.ref r), .val (.int k1), .val (.int x2), .val (.ref st), .val (.ref nu), .val (.ref en), .val (.ref oa), .val (.int (k1 &&& (3 : Int32))), .val (.int (3 : Int32)), .val (.int tq)] [(.int tq), (.int (3 : Int32)), (.ref en), (.ref nu), (.ref r)]))
              refine own_callV (y := (⟨"com/example/tidx/tidx/index/Run", "add", "([I[[Ljava/lang/Object;II)V"⟩ : MethodName)) (z := (⟨"com/example/tidx/tidx/index/Run", "add", "([I[[Ljava/lang/Object;II)V"⟩ : MethodName)) (CC := "com/example/tidx/tidx/index/Run") C P311 Ob.1 (hw _ (List.mem_of_getElem? (i := 81) rfl)) (hw _ (List.mem_of_getElem? (i := 82) rfl)) (hw _ (List.mem_of_getElem? (i := 84) rfl)) (hw _ (List.mem_of_getElem? (i := 84) rfl)) (hw _ (List.mem_of_getElem? (i := 83) rfl)) (hw _ (List.mem_of_getElem? (i := 8) rfl)) (hw _ (List.mem_of_getElem? (i := 85) rfl)) (by decide) (rmal l Z a0 hw r nu en (3 : Int32) tq aR aV aF aT aO aW kR kV kF kT vd sl ow sz rr vv ff tt h0 P311.old g_r g_aR g_aV g_aF g_aT hst Ob YaR lR YaV lV YaF lF YaT lT (by omega) (by omega) (by omega) (by omega) s1_ s2_ In Ie VR VV) (as := [(.ref nu), (.ref en), (.int (3 : Int32)), (.int tq)]) (rest := []) pd_0 rfl rfl (wd := 0) rfl rfl dst_77 (allS (Or.inl (List.mem_of_getElem? (i := 1) rfl)) (allS (Or.inl (List.mem_of_getElem? (i := 2) rfl)) (allS (Or.inl (List.mem_of_getElem? (i := 3) rfl)) (allS (Or.inl (List.mem_of_getElem? (i := 4) rfl)) (allS (Or.inl (List.mem_of_getElem? (i := 5) rfl)) all0))))) (by decide) (by decide) (by decide) (by decide) (fun T343 h343 v343 P343 K343 hQ343 => ?_)
              obtain ⟨rfl, Ob343, YaR343, YaV343, YaF343, YaT343⟩ := hQ343
              have I344_nu := own_insK In K343
              have I345_en := own_insK Ie K343
              have I346_oa := own_insK Ia K343
              have I347_oa := own_insK Ib K343
              have I348_e0 := own_insK Ie0 K343
              have I349_e1 := own_insK Ie1 K343
              have I350_e2 := own_insK Ie2 K343
              have I351_e3 := own_insK Ie3 K343
              have Y352_aO := YaO.keep K343 (ninS (own_neL (by omega)) (ninS (own_neL (by omega)) (ninS (own_neL (by omega)) (ninS (own_neL (by omega)) (ninS (own_neL (by omega)) nin0)))))
              have Y353_aW := YaW.keep K343 (ninS (own_neL (by omega)) (ninS (own_neL (by omega)) (ninS (own_neL (by omega)) (ninS (own_neL (by omega)) (ninS (own_neL (by omega)) nin0)))))
              have Y354_st := Yst.keep K343 (ninS (own_neL (by omega)) (ninS (own_neL (by omega)) (ninS (own_neL (by omega)) (ninS (own_neL (by omega)) (ninS (own_neL (by omega)) nin0)))))
              have Y355_en := Yen.keep K343 (ninS (own_neL (by omega)) (ninS (own_neL (by omega)) (ninS (own_neL (by omega)) (ninS (own_neL (by omega)) (ninS (own_neL (by omega)) nin0)))))
              have laR343 : (rr.set (sl).toNatClampNeg (.ref nu)).length = 4 := by rw [List.length_set]; exact lR
              have laV343 : (vv.set (sl).toNatClampNeg (.ref en)).length = 4 := by rw [List.length_set]; exact lV
              have laF343 : (ff.set (sl).toNatClampNeg (.int (3 : Int32))).length = 4 := by rw [List.length_set]; exact lF
              have laT343 : (tt.set (sl).toNatClampNeg (.int tq)).length = 4 := by rw [List.length_set]; exact lT
              show OwnDone p e below _ (T343.setTop (mkF m 80 #[.val (.ref r), .val (.int k1), .val (.int x2), .val (.ref st), .val (.ref nu), .val (.ref en), .val (.ref oa), .val (.int (k1 &&& (3 : Int32))), .val (.int (3 : Int32)), .val (.int tq)] []))
              refine OwnDone.go (A := (T343.setTop (mkF m 84 #[.val (.ref r), .val (.int k1), .val (.int x2), .val (.ref st), .val (.ref nu), .val (.ref en), .val (.ref oa), .val (.int (k1 &&& (3 : Int32))), .val (.int (3 : Int32)), .val (.int tq)] [(.int tq), (.int (3 : Int32))]))) (fun tQ kQ => ?_) ?_
              · refine XS.iload P343.here hx rfl (hb hby dst_80) rfl ?_
                show Steps p.tables e below (T343.setTop (mkF m 82 #[.val (.ref r), .val (.int k1), .val (.int x2), .val (.ref st), .val (.ref nu), .val (.ref en), .val (.ref oa), .val (.int (k1 &&& (3 : Int32))), .val (.int (3 : Int32)), .val (.int tq)] [(.int (3 : Int32))])) _
                refine XS.iload P343.here hx rfl (hb hby dst_82) rfl ?_
                show Steps p.tables e below (T343.setTop (mkF m 84 #[.val (.ref r), .val (.int k1), .val (.int x2), .val (.ref st), .val (.ref nu), .val (.ref en), .val (.ref oa), .val (.int (k1 &&& (3 : Int32))), .val (.int (3 : Int32)), .val (.int tq)] [(.int tq), (.int (3 : Int32))])) _
                exact kQ
              show OwnDone p e below _ (T343.setTop (mkF m 84 #[.val (.ref r), .val (.int k1), .val (.int x2), .val (.ref st), .val (.ref nu), .val (.ref en), .val (.ref oa), .val (.int (k1 &&& (3 : Int32))), .val (.int (3 : Int32)), .val (.int tq)] [(.int tq), (.int (3 : Int32))]))
              refine OwnDone.go (A := (T343.setTop (mkF m 87 #[.val (.ref r), .val (.int k1), .val (.int x2), .val (.ref st), .val (.ref nu), .val (.ref en), .val (.ref oa), .val (.int (k1 &&& (3 : Int32))), .val (.int (3 : Int32)), .val (.int tq)] []))) (fun tQ kQ => XS.icmpNo P343.here hx rfl (hb hby dst_84) rfl (XT.ii_ge_f hst) kQ) ?_
              show OwnDone p e below _ (T343.setTop (mkF m 87 #[.val (.ref r), .val (.int k1), .val (.int x2), .val (.ref st), .val (.ref nu), .val (.ref en), .val (.ref oa), .val (.int (k1 &&& (3 : Int32))), .val (.int (3 : Int32)), .val (.int tq)] []))
              refine OwnDone.go (A := (T343.setTop (mkF m 90 #[.val (.ref r), .val (.int k1), .val (.int x2), .val (.ref st), .val (.ref nu), .val (.ref en), .val (.ref oa), .val (.int (k1 &&& (3 : Int32))), .val (.int (3 : Int32)), .val (.int tq)] [(.ref b0)]))) (fun tQ kQ => ?_) ?_
              · refine XS.aloadN P343.here hx rfl (hb hby dst_87) rfl rfl ?_
                show Steps p.tables e below (T343.setTop (mkF m 88 #[.val (.ref r), .val (.int k1), .val (.int x2), .val (.ref st), .val (.ref nu), .val (.ref en), .val (.ref oa), .val (.int (k1 &&& (3 : Int32))), .val (.int (3 : Int32)), .val (.int tq)] [(.ref st)])) _
                refine XS.iconst P343.here hx rfl (hb hby dst_88) ?_
                show Steps p.tables e below (T343.setTop (mkF m 89 #[.val (.ref r), .val (.int k1), .val (.int x2), .val (.ref st), .val (.ref nu), .val (.ref en), .val (.ref oa), .val (.int (k1 &&& (3 : Int32))), .val (.int (3 : Int32)), .val (.int tq)] [(.int (0 : Int32)), (.ref st)])) _
                refine own_aaload C P343 Y354_st rfl (by decide) rfl dst_89 ?_
                show Steps p.tables e below (T343.setTop (mkF m 90 #[.val (.ref r), .val (.int k1), .val (.int x2), .val (.ref st), .val (.ref nu), .val (.ref en), .val (.ref oa), .val (.int (k1 &&& (3 : Int32))), .val (.int (3 : Int32)), .val (.int tq)] [(.ref b0)])) _
                exact kQ
              show OwnDone p e below _ (T343.setTop (mkF m 90 #[.val (.ref r), .val (.int k1), .val (.int x2), .val (.ref st), .val (.ref nu), .val (.ref en), .val (.ref oa), .val (.int (k1 &&& (3 : Int32))), .val (.int (3 : Int32)), .val (.int tq)] [(.ref b0)]))
              refine OwnDone.go (A := (T343.setTop (mkF m 101 #[.val (.ref r), .val (.int k1), .val (.int x2), .val (.ref st), .val (.ref nu), .val (.ref en), .val (.ref oa), .val (.int (k1 &&& (3 : Int32))), .val (.int (3 : Int32)), .val (.int tq)] []))) (fun tQ kQ => XT.ifnonnullYes P343.here hx rfl (pc0 := 90) (pc' := 101) rfl (hb hby dst_90) rfl (by decide) (by decide) kQ) ?_
              show OwnDone p e below _ (T343.setTop (mkF m 101 #[.val (.ref r), .val (.int k1), .val (.int x2), .val (.ref st), .val (.ref nu), .val (.ref en), .val (.ref oa), .val (.int (k1 &&& (3 : Int32))), .val (.int (3 : Int32)), .val (.int tq)] []))
              refine OwnDone.go (A := (T343.setTop (mkF m 116 #[.val (.ref r), .val (.int k1), .val (.int x2), .val (.ref st), .val (.ref nu), .val (.ref en), .val (.ref oa), .val (.int (k1 &&& (3 : Int32))), .val (.int (3 : Int32)), .val (.int tq)] []))) (fun tQ kQ => ?_) ?_
              · refine XS.goto P343.here hx rfl (pc0 := 101) (pc' := 116) rfl (hb hby dst_101) (by decide) (by decide) ?_
                show Steps p.tables e below (T343.setTop (mkF m 116 #[.val (.ref r), .val (.int k1), .val (.int x2), .val (.ref st), .val (.ref nu), .val (.ref en), .val (.ref oa), .val (.int (k1 &&& (3 : Int32))), .val (.int (3 : Int32)), .val (.int tq)] [])) _
                exact kQ
              show OwnDone p e below _ (T343.setTop (mkF m 116 #[.val (.ref r), .val (.int k1), .val (.int x2), .val (.ref st), .val (.ref nu), .val (.ref en), .val (.ref oa), .val (.int (k1 &&& (3 : Int32))), .val (.int (3 : Int32)), .val (.int tq)] []))
              rcases j4 with j4 | j4
              · obtain ⟨j4, j5, j6⟩ := j4
                show OwnDone p e below _ (T343.setTop (mkF m 116 #[.val (.ref r), .val (.int k1), .val (.int x2), .val (.ref st), .val (.ref nu), .val (.ref en), .val (.ref oa), .val (.int (k1 &&& (3 : Int32))), .val (.int (3 : Int32)), .val (.int tq)] []))
                refine OwnDone.go (A := (T343.setTop (mkF m 117 #[.val (.ref r), .val (.int k1), .val (.int x2), .val (.ref st), .val (.ref nu), .val (.ref en), .val (.ref oa), .val (.int (k1 &&& (3 : Int32))), .val (.int (3 : Int32)), .val (.int tq)] [(.ref r)]))) (fun tQ kQ => ?_) ?_
                · refine XS.aloadN P343.here hx rfl (hb hby dst_116) rfl rfl ?_
                  show Steps p.tables e below (T343.setTop (mkF m 117 #[.val (.ref r), .val (.int k1), .val (.int x2), .val (.ref st), .val (.ref nu), .val (.ref en), .val (.ref oa), .val (.int (k1 &&& (3 : Int32))), .val (.int (3 : Int32)), .val (.int tq)] [(.ref r)])) _
                  exact kQ
                show OwnDone p e below _ (T343.setTop (mkF m 117 #[.val (.ref r), .val (.int k1), .val (.int x2), .val (.ref st), .val (.ref nu), .val (.ref en), .val (.ref oa), .val (.int (k1 &&& (3 : Int32))), .val (.int (3 : Int32)), .val (.int tq)] [(.ref r)]))
                refine own_callV (y := (⟨"com/example/tidx/tidx/index/Run", "first", "()[Ljava/lang/Object;"⟩ : MethodName)) (z := (⟨"com/example/tidx/tidx/index/Run", "first", "()[Ljava/lang/Object;"⟩ : MethodName)) (CC := "com/example/tidx/tidx/index/Run") C P343 Ob343.1 (hw _ (List.mem_of_getElem? (i := 34) rfl)) (hw _ (List.mem_of_getElem? (i := 35) rfl)) (hw _ (List.mem_of_getElem? (i := 37) rfl)) (hw _ (List.mem_of_getElem? (i := 37) rfl)) (hw _ (List.mem_of_getElem? (i := 36) rfl)) (hw _ (List.mem_of_getElem? (i := 8) rfl)) (hw _ (List.mem_of_getElem? (i := 38) rfl)) (by decide) (rmfb l Z a0 hw r aR aV aF aT aO aW kV kF kW vd (sl + (1 : Int32)) ow (sz + (tq - (3 : Int32))) (vv.set (sl).toNatClampNeg (.ref en)) (ff.set (sl).toNatClampNeg (.int (3 : Int32))) ww aW b0 f h343 P343.old Ob343 YaV343 YaF343 Y353_aW (own_incNe bs (by omega)) ((List.getElem?_set_ne (own_ne0 bs.1 j1)).trans j4) ((List.getElem?_set_ne (own_ne0 bs.1 j1)).trans j2) j3 j5) (as := []) (rest := []) pd_4 rfl rfl (wd := 0) rfl rfl dst_117 all0 (by decide) (by decide) (by decide) (by decide) (fun T356 h356 v356 P356 K356 hQ356 => ?_)
                obtain ⟨rfl, rfl⟩ := hQ356
                show OwnDone p e below _ (T356.setTop (mkF m 120 #[.val (.ref r), .val (.int k1), .val (.int x2), .val (.ref st), .val (.ref nu), .val (.ref en), .val (.ref oa), .val (.int (k1 &&& (3 : Int32))), .val (.int (3 : Int32)), .val (.int tq)] [(.ref b0)]))
                refine OwnDone.go (A := (T356.setTop (mkF m 123 #[.val (.ref r), .val (.int k1), .val (.int x2), .val (.ref st), .val (.ref nu), .val (.ref en), .val (.ref oa), .val (.int (k1 &&& (3 : Int32))), .val (.int (3 : Int32)), .val (.int tq)] [(.ref b0), (.ref b0)]))) (fun tQ kQ => ?_) ?_
                · refine XS.aloadN P356.here hx rfl (hb hby dst_120) rfl rfl ?_
                  show Steps p.tables e below (T356.setTop (mkF m 121 #[.val (.ref r), .val (.int k1), .val (.int x2), .val (.ref st), .val (.ref nu), .val (.ref en), .val (.ref oa), .val (.int (k1 &&& (3 : Int32))), .val (.int (3 : Int32)), .val (.int tq)] [(.ref st), (.ref b0)])) _
                  refine XS.iconst P356.here hx rfl (hb hby dst_121) ?_
                  show Steps p.tables e below (T356.setTop (mkF m 122 #[.val (.ref r), .val (.int k1), .val (.int x2), .val (.ref st), .val (.ref nu), .val (.ref en), .val (.ref oa), .val (.int (k1 &&& (3 : Int32))), .val (.int (3 : Int32)), .val (.int tq)] [(.int (0 : Int32)), (.ref st), (.ref b0)])) _
                  refine own_aaload C P356 Y354_st rfl (by decide) rfl dst_122 ?_
                  show Steps p.tables e below (T356.setTop (mkF m 123 #[.val (.ref r), .val (.int k1), .val (.int x2), .val (.ref st), .val (.ref nu), .val (.ref en), .val (.ref oa), .val (.int (k1 &&& (3 : Int32))), .val (.int (3 : Int32)), .val (.int tq)] [(.ref b0), (.ref b0)])) _
                  exact kQ
                show OwnDone p e below _ (T356.setTop (mkF m 123 #[.val (.ref r), .val (.int k1), .val (.int x2), .val (.ref st), .val (.ref nu), .val (.ref en), .val (.ref oa), .val (.int (k1 &&& (3 : Int32))), .val (.int (3 : Int32)), .val (.int tq)] [(.ref b0), (.ref b0)]))
                refine OwnDone.go (A := (T356.setTop (mkF m 126 #[.val (.ref r), .val (.int k1), .val (.int x2), .val (.ref st), .val (.ref nu), .val (.ref en), .val (.ref oa), .val (.int (k1 &&& (3 : Int32))), .val (.int (3 : Int32)), .val (.int tq)] []))) (fun tQ kQ => XT.acmpNo P356.here hx rfl (hb hby dst_123) rfl rfl rfl (XT.aa_ne_f rfl) kQ) ?_
                show OwnDone p e below _ (T356.setTop (mkF m 126 #[.val (.ref r), .val (.int k1), .val (.int x2), .val (.ref st), .val (.ref nu), .val (.ref en), .val (.ref oa), .val (.int (k1 &&& (3 : Int32))), .val (.int (3 : Int32)), .val (.int tq)] []))
                refine OwnDone.go (A := (T356.setTop (mkF m 131 #[.val (.ref r), .val (.int k1), .val (.int x2), .val (.ref st), .val (.ref nu), .val (.ref en), .val (.ref oa), .val (.int (k1 &&& (3 : Int32))), .val (.int (3 : Int32)), .val (.int tq)] [(.int (1 : Int32))]))) (fun tQ kQ => ?_) ?_
                · refine XS.iconst P356.here hx rfl (hb hby dst_126) ?_
                  show Steps p.tables e below (T356.setTop (mkF m 127 #[.val (.ref r), .val (.int k1), .val (.int x2), .val (.ref st), .val (.ref nu), .val (.ref en), .val (.ref oa), .val (.int (k1 &&& (3 : Int32))), .val (.int (3 : Int32)), .val (.int tq)] [(.int (1 : Int32))])) _
                  refine XS.goto P356.here hx rfl (pc0 := 127) (pc' := 131) rfl (hb hby dst_127) (by decide) (by decide) ?_
                  show Steps p.tables e below (T356.setTop (mkF m 131 #[.val (.ref r), .val (.int k1), .val (.int x2), .val (.ref st), .val (.ref nu), .val (.ref en), .val (.ref oa), .val (.int (k1 &&& (3 : Int32))), .val (.int (3 : Int32)), .val (.int tq)] [(.int (1 : Int32))])) _
                  exact kQ
                show OwnDone p e below _ (T356.setTop (mkF m 131 #[.val (.ref r), .val (.int k1), .val (.int x2), .val (.ref st), .val (.ref nu), .val (.ref en), .val (.ref oa), .val (.int (k1 &&& (3 : Int32))), .val (.int (3 : Int32)), .val (.int tq)] [(.int (1 : Int32))]))
                refine own_retN C P356 (by simp) (z' := (1 : Int32)) (by decide) dst_131 (by decide) (by decide) ?_
                refine ⟨rfl, vd, (sl + (1 : Int32)), ow, (sz + (tq - (3 : Int32))), (rr.set (sl).toNatClampNeg (.ref nu)), (vv.set (sl).toNatClampNeg (.ref en)), (ff.set (sl).toNatClampNeg (.int (3 : Int32))), (tt.set (sl).toNatClampNeg (.int tq)), oo, ww, (.ref b0), s1, Ob343, YaR343, YaV343, YaF343, YaT343, Y352_aO, Y353_aW, Y354_st, Y355_en, ⟨laR343, laV343, laF343, laT343, lO, lW⟩, ?_, ?_, ?_, ?_⟩
                · exact own_inc bs (by omega)
                · exact ⟨bo.1, by have := bo.2; omega⟩
                · exact I1.imp id fun ⟨q1, q2, q3, q4, q5⟩ => ⟨q1, q2, q3, q4, (own_insK q5 K343)⟩
                · exact Or.inr ⟨own_incNe bs (by omega), b0, f, rfl, (List.getElem?_set_ne (own_ne0 bs.1 j1)).trans j2, j3, Or.inl ⟨(List.getElem?_set_ne (own_ne0 bs.1 j1)).trans j4, j5, j6⟩⟩
              · obtain ⟨j4, j5⟩ := j4
                show OwnDone p e below _ (T343.setTop (mkF m 116 #[.val (.ref r), .val (.int k1), .val (.int x2), .val (.ref st), .val (.ref nu), .val (.ref en), .val (.ref oa), .val (.int (k1 &&& (3 : Int32))), .val (.int (3 : Int32)), .val (.int tq)] []))
                refine OwnDone.go (A := (T343.setTop (mkF m 117 #[.val (.ref r), .val (.int k1), .val (.int x2), .val (.ref st), .val (.ref nu), .val (.ref en), .val (.ref oa), .val (.int (k1 &&& (3 : Int32))), .val (.int (3 : Int32)), .val (.int tq)] [(.ref r)]))) (fun tQ kQ => ?_) ?_
                · refine XS.aloadN P343.here hx rfl (hb hby dst_116) rfl rfl ?_
                  show Steps p.tables e below (T343.setTop (mkF m 117 #[.val (.ref r), .val (.int k1), .val (.int x2), .val (.ref st), .val (.ref nu), .val (.ref en), .val (.ref oa), .val (.int (k1 &&& (3 : Int32))), .val (.int (3 : Int32)), .val (.int tq)] [(.ref r)])) _
                  exact kQ
                show OwnDone p e below _ (T343.setTop (mkF m 117 #[.val (.ref r), .val (.int k1), .val (.int x2), .val (.ref st), .val (.ref nu), .val (.ref en), .val (.ref oa), .val (.int (k1 &&& (3 : Int32))), .val (.int (3 : Int32)), .val (.int tq)] [(.ref r)]))
                refine own_callV (y := (⟨"com/example/tidx/tidx/index/Run", "first", "()[Ljava/lang/Object;"⟩ : MethodName)) (z := (⟨"com/example/tidx/tidx/index/Run", "first", "()[Ljava/lang/Object;"⟩ : MethodName)) (CC := "com/example/tidx/tidx/index/Run") C P343 Ob343.1 (hw _ (List.mem_of_getElem? (i := 34) rfl)) (hw _ (List.mem_of_getElem? (i := 35) rfl)) (hw _ (List.mem_of_getElem? (i := 37) rfl)) (hw _ (List.mem_of_getElem? (i := 37) rfl)) (hw _ (List.mem_of_getElem? (i := 36) rfl)) (hw _ (List.mem_of_getElem? (i := 8) rfl)) (hw _ (List.mem_of_getElem? (i := 38) rfl)) (by decide) (rmfb l Z a0 hw r aR aV aF aT aO aW kV kF kE vd (sl + (1 : Int32)) ow (sz + (tq - (3 : Int32))) (vv.set (sl).toNatClampNeg (.ref en)) (ff.set (sl).toNatClampNeg (.int (3 : Int32))) [(.ref e0), (.ref e1), (.ref e2), (.ref e3)] en b0 f h343 P343.old Ob343 YaV343 YaF343 Y355_en (own_incNe bs (by omega)) ((List.getElem?_set_ne (own_ne0 bs.1 j1)).trans j4) ((List.getElem?_set_ne (own_ne0 bs.1 j1)).trans j2) j3 j5) (as := []) (rest := []) pd_4 rfl rfl (wd := 0) rfl rfl dst_117 all0 (by decide) (by decide) (by decide) (by decide) (fun T357 h357 v357 P357 K357 hQ357 => ?_)
                obtain ⟨rfl, rfl⟩ := hQ357
                show OwnDone p e below _ (T357.setTop (mkF m 120 #[.val (.ref r), .val (.int k1), .val (.int x2), .val (.ref st), .val (.ref nu), .val (.ref en), .val (.ref oa), .val (.int (k1 &&& (3 : Int32))), .val (.int (3 : Int32)), .val (.int tq)] [(.ref b0)]))
                refine OwnDone.go (A := (T357.setTop (mkF m 123 #[.val (.ref r), .val (.int k1), .val (.int x2), .val (.ref st), .val (.ref nu), .val (.ref en), .val (.ref oa), .val (.int (k1 &&& (3 : Int32))), .val (.int (3 : Int32)), .val (.int tq)] [(.ref b0), (.ref b0)]))) (fun tQ kQ => ?_) ?_
                · refine XS.aloadN P357.here hx rfl (hb hby dst_120) rfl rfl ?_
                  show Steps p.tables e below (T357.setTop (mkF m 121 #[.val (.ref r), .val (.int k1), .val (.int x2), .val (.ref st), .val (.ref nu), .val (.ref en), .val (.ref oa), .val (.int (k1 &&& (3 : Int32))), .val (.int (3 : Int32)), .val (.int tq)] [(.ref st), (.ref b0)])) _
                  refine XS.iconst P357.here hx rfl (hb hby dst_121) ?_
                  show Steps p.tables e below (T357.setTop (mkF m 122 #[.val (.ref r), .val (.int k1), .val (.int x2), .val (.ref st), .val (.ref nu), .val (.ref en), .val (.ref oa), .val (.int (k1 &&& (3 : Int32))), .val (.int (3 : Int32)), .val (.int tq)] [(.int (0 : Int32)), (.ref st), (.ref b0)])) _
                  refine own_aaload C P357 Y354_st rfl (by decide) rfl dst_122 ?_
                  show Steps p.tables e below (T357.setTop (mkF m 123 #[.val (.ref r), .val (.int k1), .val (.int x2), .val (.ref st), .val (.ref nu), .val (.ref en), .val (.ref oa), .val (.int (k1 &&& (3 : Int32))), .val (.int (3 : Int32)), .val (.int tq)] [(.ref b0), (.ref b0)])) _
                  exact kQ
                show OwnDone p e below _ (T357.setTop (mkF m 123 #[.val (.ref r), .val (.int k1), .val (.int x2), .val (.ref st), .val (.ref nu), .val (.ref en), .val (.ref oa), .val (.int (k1 &&& (3 : Int32))), .val (.int (3 : Int32)), .val (.int tq)] [(.ref b0), (.ref b0)]))
                refine OwnDone.go (A := (T357.setTop (mkF m 126 #[.val (.ref r), .val (.int k1), .val (.int x2), .val (.ref st), .val (.ref nu), .val (.ref en), .val (.ref oa), .val (.int (k1 &&& (3 : Int32))), .val (.int (3 : Int32)), .val (.int tq)] []))) (fun tQ kQ => XT.acmpNo P357.here hx rfl (hb hby dst_123) rfl rfl rfl (XT.aa_ne_f rfl) kQ) ?_
                show OwnDone p e below _ (T357.setTop (mkF m 126 #[.val (.ref r), .val (.int k1), .val (.int x2), .val (.ref st), .val (.ref nu), .val (.ref en), .val (.ref oa), .val (.int (k1 &&& (3 : Int32))), .val (.int (3 : Int32)), .val (.int tq)] []))
                refine OwnDone.go (A := (T357.setTop (mkF m 131 #[.val (.ref r), .val (.int k1), .val (.int x2), .val (.ref st), .val (.ref nu), .val (.ref en), .val (.ref oa), .val (.int (k1 &&& (3 : Int32))), .val (.int (3 : Int32)), .val (.int tq)] [(.int (1 : Int32))]))) (fun tQ kQ => ?_) ?_
                · refine XS.iconst P357.here hx rfl (hb hby dst_126) ?_
                  show Steps p.tables e below (T357.setTop (mkF m 127 #[.val (.ref r), .val (.int k1), .val (.int x2), .val (.ref st), .val (.ref nu), .val (.ref en), .val (.ref oa), .val (.int (k1 &&& (3 : Int32))), .val (.int (3 : Int32)), .val (.int tq)] [(.int (1 : Int32))])) _
                  refine XS.goto P357.here hx rfl (pc0 := 127) (pc' := 131) rfl (hb hby dst_127) (by decide) (by decide) ?_
                  show Steps p.tables e below (T357.setTop (mkF m 131 #[.val (.ref r), .val (.int k1), .val (.int x2), .val (.ref st), .val (.ref nu), .val (.ref en), .val (.ref oa), .val (.int (k1 &&& (3 : Int32))), .val (.int (3 : Int32)), .val (.int tq)] [(.int (1 : Int32))])) _
                  exact kQ
                show OwnDone p e below _ (T357.setTop (mkF m 131 #[.val (.ref r), .val (.int k1), .val (.int x2), .val (.ref st), .val (.ref nu), .val (.ref en), .val (.ref oa), .val (.int (k1 &&& (3 : Int32))), .val (.int (3 : Int32)), .val (.int tq)] [(.int (1 : Int32))]))
                refine own_retN C P357 (by simp) (z' := (1 : Int32)) (by decide) dst_131 (by decide) (by decide) ?_
                refine ⟨rfl, vd, (sl + (1 : Int32)), ow, (sz + (tq - (3 : Int32))), (rr.set (sl).toNatClampNeg (.ref nu)), (vv.set (sl).toNatClampNeg (.ref en)), (ff.set (sl).toNatClampNeg (.int (3 : Int32))), (tt.set (sl).toNatClampNeg (.int tq)), oo, ww, (.ref b0), s1, Ob343, YaR343, YaV343, YaF343, YaT343, Y352_aO, Y353_aW, Y354_st, Y355_en, ⟨laR343, laV343, laF343, laT343, lO, lW⟩, ?_, ?_, ?_, ?_⟩
                · exact own_inc bs (by omega)
                · exact ⟨bo.1, by have := bo.2; omega⟩
                · exact I1.imp id fun ⟨q1, q2, q3, q4, q5⟩ => ⟨q1, q2, q3, q4, (own_insK q5 K343)⟩
                · exact Or.inr ⟨own_incNe bs (by omega), b0, f, rfl, (List.getElem?_set_ne (own_ne0 bs.1 j1)).trans j2, j3, Or.inr ⟨(List.getElem?_set_ne (own_ne0 bs.1 j1)).trans j4, j5⟩⟩
          · rcases I0 with I0 | I0
            · obtain ⟨j1, rfl⟩ := I0
              show OwnDone p e below _ (T311.setTop (mkF m 77 #[.val (.ref r), .val (.int k1), .val (.int x2), .val (.ref st), .val (.ref nu), .val (.ref en), .val (.ref oa), .val (.int (k1 &&& (3 : Int32))), .val (.int (3 : Int32)), .val (.int tq)] [(.int tq), (.int (3 : Int32)), (.ref en), (.ref nu), (.ref r)]))
              refine own_callV (y := (⟨"com/example/tidx/tidx/index/Run", "add", "([I[[Ljava/lang/Object;II)V"⟩ : MethodName)) (z := (⟨"com/example/tidx/tidx/index/Run", "add", "([I[[Ljava/lang/Object;II)V"⟩ : MethodName)) (CC := "com/example/tidx/tidx/index/Run") C P311 Ob.1 (hw _ (List.mem_of_getElem? (i := 81) rfl)) (hw _ (List.mem_of_getElem? (i := 82) rfl)) (hw _ (List.mem_of_getElem? (i := 84) rfl)) (hw _ (List.mem_of_getElem? (i := 84) rfl)) (hw _ (List.mem_of_getElem? (i := 83) rfl)) (hw _ (List.mem_of_getElem? (i := 8) rfl)) (hw _ (List.mem_of_getElem? (i := 85) rfl)) (by decide) (rmag l Z a0 hw r nu en (3 : Int32) tq h0 P311.old hst) (as := [(.ref nu), (.ref en), (.int (3 : Int32)), (.int tq)]) (rest := []) pd_0 rfl rfl (wd := 0) rfl rfl dst_77 all0 (by decide) (by decide) (by decide) (by decide) (fun T358 h358 v358 P358 K358 hQ358 => ?_)
              obtain ⟨rfl, rfl⟩ := hQ358
              show OwnDone p e below _ (T358.setTop (mkF m 80 #[.val (.ref r), .val (.int k1), .val (.int x2), .val (.ref st), .val (.ref nu), .val (.ref en), .val (.ref oa), .val (.int (k1 &&& (3 : Int32))), .val (.int (3 : Int32)), .val (.int tq)] []))
              refine OwnDone.go (A := (T358.setTop (mkF m 84 #[.val (.ref r), .val (.int k1), .val (.int x2), .val (.ref st), .val (.ref nu), .val (.ref en), .val (.ref oa), .val (.int (k1 &&& (3 : Int32))), .val (.int (3 : Int32)), .val (.int tq)] [(.int tq), (.int (3 : Int32))]))) (fun tQ kQ => ?_) ?_
              · refine XS.iload P358.here hx rfl (hb hby dst_80) rfl ?_
                show Steps p.tables e below (T358.setTop (mkF m 82 #[.val (.ref r), .val (.int k1), .val (.int x2), .val (.ref st), .val (.ref nu), .val (.ref en), .val (.ref oa), .val (.int (k1 &&& (3 : Int32))), .val (.int (3 : Int32)), .val (.int tq)] [(.int (3 : Int32))])) _
                refine XS.iload P358.here hx rfl (hb hby dst_82) rfl ?_
                show Steps p.tables e below (T358.setTop (mkF m 84 #[.val (.ref r), .val (.int k1), .val (.int x2), .val (.ref st), .val (.ref nu), .val (.ref en), .val (.ref oa), .val (.int (k1 &&& (3 : Int32))), .val (.int (3 : Int32)), .val (.int tq)] [(.int tq), (.int (3 : Int32))])) _
                exact kQ
              show OwnDone p e below _ (T358.setTop (mkF m 84 #[.val (.ref r), .val (.int k1), .val (.int x2), .val (.ref st), .val (.ref nu), .val (.ref en), .val (.ref oa), .val (.int (k1 &&& (3 : Int32))), .val (.int (3 : Int32)), .val (.int tq)] [(.int tq), (.int (3 : Int32))]))
              refine OwnDone.go (A := (T358.setTop (mkF m 101 #[.val (.ref r), .val (.int k1), .val (.int x2), .val (.ref st), .val (.ref nu), .val (.ref en), .val (.ref oa), .val (.int (k1 &&& (3 : Int32))), .val (.int (3 : Int32)), .val (.int tq)] []))) (fun tQ kQ => XS.icmpYes P358.here hx rfl (pc0 := 84) (pc' := 101) rfl (hb hby dst_84) rfl (XT.ii_ge_t hst) (by decide) (by decide) kQ) ?_
              show OwnDone p e below _ (T358.setTop (mkF m 101 #[.val (.ref r), .val (.int k1), .val (.int x2), .val (.ref st), .val (.ref nu), .val (.ref en), .val (.ref oa), .val (.int (k1 &&& (3 : Int32))), .val (.int (3 : Int32)), .val (.int tq)] []))
              refine OwnDone.go (A := (T358.setTop (mkF m 116 #[.val (.ref r), .val (.int k1), .val (.int x2), .val (.ref st), .val (.ref nu), .val (.ref en), .val (.ref oa), .val (.int (k1 &&& (3 : Int32))), .val (.int (3 : Int32)), .val (.int tq)] []))) (fun tQ kQ => ?_) ?_
              · refine XS.goto P358.here hx rfl (pc0 := 101) (pc' := 116) rfl (hb hby dst_101) (by decide) (by decide) ?_
                show Steps p.tables e below (T358.setTop (mkF m 116 #[.val (.ref r), .val (.int k1), .val (.int x2), .val (.ref st), .val (.ref nu), .val (.ref en), .val (.ref oa), .val (.int (k1 &&& (3 : Int32))), .val (.int (3 : Int32)), .val (.int tq)] [])) _
                exact kQ
              show OwnDone p e below _ (T358.setTop (mkF m 116 #[.val (.ref r), .val (.int k1), .val (.int x2), .val (.ref st), .val (.ref nu), .val (.ref en), .val (.ref oa), .val (.int (k1 &&& (3 : Int32))), .val (.int (3 : Int32)), .val (.int tq)] []))
              subst j1
              refine OwnDone.go (A := (T358.setTop (mkF m 117 #[.val (.ref r), .val (.int k1), .val (.int x2), .val (.ref st), .val (.ref nu), .val (.ref en), .val (.ref oa), .val (.int (k1 &&& (3 : Int32))), .val (.int (3 : Int32)), .val (.int tq)] [(.ref r)]))) (fun tQ kQ => ?_) ?_
              · refine XS.aloadN P358.here hx rfl (hb hby dst_116) rfl rfl ?_
                show Steps p.tables e below (T358.setTop (mkF m 117 #[.val (.ref r), .val (.int k1), .val (.int x2), .val (.ref st), .val (.ref nu), .val (.ref en), .val (.ref oa), .val (.int (k1 &&& (3 : Int32))), .val (.int (3 : Int32)), .val (.int tq)] [(.ref r)])) _
                exact kQ
              show OwnDone p e below _ (T358.setTop (mkF m 117 #[.val (.ref r), .val (.int k1), .val (.int x2), .val (.ref st), .val (.ref nu), .val (.ref en), .val (.ref oa), .val (.int (k1 &&& (3 : Int32))), .val (.int (3 : Int32)), .val (.int tq)] [(.ref r)]))
              refine own_callV (y := (⟨"com/example/tidx/tidx/index/Run", "first", "()[Ljava/lang/Object;"⟩ : MethodName)) (z := (⟨"com/example/tidx/tidx/index/Run", "first", "()[Ljava/lang/Object;"⟩ : MethodName)) (CC := "com/example/tidx/tidx/index/Run") C P358 Ob.1 (hw _ (List.mem_of_getElem? (i := 34) rfl)) (hw _ (List.mem_of_getElem? (i := 35) rfl)) (hw _ (List.mem_of_getElem? (i := 37) rfl)) (hw _ (List.mem_of_getElem? (i := 37) rfl)) (hw _ (List.mem_of_getElem? (i := 36) rfl)) (hw _ (List.mem_of_getElem? (i := 8) rfl)) (hw _ (List.mem_of_getElem? (i := 38) rfl)) (by decide) (rmfa l Z a0 hw r aR aV aF aT aO aW vd ow sz h0 P358.old Ob) (as := []) (rest := []) pd_4 rfl rfl (wd := 0) rfl rfl dst_117 all0 (by decide) (by decide) (by decide) (by decide) (fun T359 h359 v359 P359 K359 hQ359 => ?_)
              obtain ⟨rfl, rfl⟩ := hQ359
              show OwnDone p e below _ (T359.setTop (mkF m 120 #[.val (.ref r), .val (.int k1), .val (.int x2), .val (.ref st), .val (.ref nu), .val (.ref en), .val (.ref oa), .val (.int (k1 &&& (3 : Int32))), .val (.int (3 : Int32)), .val (.int tq)] [.null]))
              refine OwnDone.go (A := (T359.setTop (mkF m 123 #[.val (.ref r), .val (.int k1), .val (.int x2), .val (.ref st), .val (.ref nu), .val (.ref en), .val (.ref oa), .val (.int (k1 &&& (3 : Int32))), .val (.int (3 : Int32)), .val (.int tq)] [.null, .null]))) (fun tQ kQ => ?_) ?_
              · refine XS.aloadN P359.here hx rfl (hb hby dst_120) rfl rfl ?_
                show Steps p.tables e below (T359.setTop (mkF m 121 #[.val (.ref r), .val (.int k1), .val (.int x2), .val (.ref st), .val (.ref nu), .val (.ref en), .val (.ref oa), .val (.int (k1 &&& (3 : Int32))), .val (.int (3 : Int32)), .val (.int tq)] [(.ref st), .null])) _
                refine XS.iconst P359.here hx rfl (hb hby dst_121) ?_
                show Steps p.tables e below (T359.setTop (mkF m 122 #[.val (.ref r), .val (.int k1), .val (.int x2), .val (.ref st), .val (.ref nu), .val (.ref en), .val (.ref oa), .val (.int (k1 &&& (3 : Int32))), .val (.int (3 : Int32)), .val (.int tq)] [(.int (0 : Int32)), (.ref st), .null])) _
                refine own_aaload C P359 Yst rfl (by decide) rfl dst_122 ?_
                show Steps p.tables e below (T359.setTop (mkF m 123 #[.val (.ref r), .val (.int k1), .val (.int x2), .val (.ref st), .val (.ref nu), .val (.ref en), .val (.ref oa), .val (.int (k1 &&& (3 : Int32))), .val (.int (3 : Int32)), .val (.int tq)] [.null, .null])) _
                exact kQ
              show OwnDone p e below _ (T359.setTop (mkF m 123 #[.val (.ref r), .val (.int k1), .val (.int x2), .val (.ref st), .val (.ref nu), .val (.ref en), .val (.ref oa), .val (.int (k1 &&& (3 : Int32))), .val (.int (3 : Int32)), .val (.int tq)] [.null, .null]))
              refine OwnDone.go (A := (T359.setTop (mkF m 126 #[.val (.ref r), .val (.int k1), .val (.int x2), .val (.ref st), .val (.ref nu), .val (.ref en), .val (.ref oa), .val (.int (k1 &&& (3 : Int32))), .val (.int (3 : Int32)), .val (.int tq)] []))) (fun tQ kQ => XT.acmpNo P359.here hx rfl (hb hby dst_123) rfl rfl rfl (XT.aa_ne_f rfl) kQ) ?_
              show OwnDone p e below _ (T359.setTop (mkF m 126 #[.val (.ref r), .val (.int k1), .val (.int x2), .val (.ref st), .val (.ref nu), .val (.ref en), .val (.ref oa), .val (.int (k1 &&& (3 : Int32))), .val (.int (3 : Int32)), .val (.int tq)] []))
              refine OwnDone.go (A := (T359.setTop (mkF m 131 #[.val (.ref r), .val (.int k1), .val (.int x2), .val (.ref st), .val (.ref nu), .val (.ref en), .val (.ref oa), .val (.int (k1 &&& (3 : Int32))), .val (.int (3 : Int32)), .val (.int tq)] [(.int (1 : Int32))]))) (fun tQ kQ => ?_) ?_
              · refine XS.iconst P359.here hx rfl (hb hby dst_126) ?_
                show Steps p.tables e below (T359.setTop (mkF m 127 #[.val (.ref r), .val (.int k1), .val (.int x2), .val (.ref st), .val (.ref nu), .val (.ref en), .val (.ref oa), .val (.int (k1 &&& (3 : Int32))), .val (.int (3 : Int32)), .val (.int tq)] [(.int (1 : Int32))])) _
                refine XS.goto P359.here hx rfl (pc0 := 127) (pc' := 131) rfl (hb hby dst_127) (by decide) (by decide) ?_
                show Steps p.tables e below (T359.setTop (mkF m 131 #[.val (.ref r), .val (.int k1), .val (.int x2), .val (.ref st), .val (.ref nu), .val (.ref en), .val (.ref oa), .val (.int (k1 &&& (3 : Int32))), .val (.int (3 : Int32)), .val (.int tq)] [(.int (1 : Int32))])) _
                exact kQ
              show OwnDone p e below _ (T359.setTop (mkF m 131 #[.val (.ref r), .val (.int k1), .val (.int x2), .val (.ref st), .val (.ref nu), .val (.ref en), .val (.ref oa), .val (.int (k1 &&& (3 : Int32))), .val (.int (3 : Int32)), .val (.int tq)] [(.int (1 : Int32))]))
              refine own_retN C P359 (by simp) (z' := (1 : Int32)) (by decide) dst_131 (by decide) (by decide) ?_
              refine ⟨rfl, vd, (0 : Int32), ow, sz, rr, vv, ff, tt, oo, ww, .null, s1, Ob, YaR, YaV, YaF, YaT, YaO, YaW, Yst, Yen, ⟨lR, lV, lF, lT, lO, lW⟩, ?_, ?_, ?_, ?_⟩
              · exact ⟨bs.1, by have := bs.2; omega⟩
              · exact ⟨bo.1, by have := bo.2; omega⟩
              · exact I1.imp id fun ⟨q1, q2, q3, q4, q5⟩ => ⟨q1, q2, q3, q4, q5⟩
              · exact Or.inl ⟨rfl, rfl⟩
            · obtain ⟨j1, b0, f, rfl, j2, j3, j4⟩ := I0
              show OwnDone p e below _ (T311.setTop (mkF m 77 #[.val (.ref r), .val (.int k1), .val (.int x2), .val (.ref st), .val (.ref nu), .val (.ref en), .val (.ref oa), .val (.int (k1 &&& (3 : Int32))), .val (.int (3 : Int32)), .val (.int tq)] [(.int tq), (.int (3 : Int32)), (.ref en), (.ref nu), (.ref r)]))
              refine own_callV (y := (⟨"com/example/tidx/tidx/index/Run", "add", "([I[[Ljava/lang/Object;II)V"⟩ : MethodName)) (z := (⟨"com/example/tidx/tidx/index/Run", "add", "([I[[Ljava/lang/Object;II)V"⟩ : MethodName)) (CC := "com/example/tidx/tidx/index/Run") C P311 Ob.1 (hw _ (List.mem_of_getElem? (i := 81) rfl)) (hw _ (List.mem_of_getElem? (i := 82) rfl)) (hw _ (List.mem_of_getElem? (i := 84) rfl)) (hw _ (List.mem_of_getElem? (i := 84) rfl)) (hw _ (List.mem_of_getElem? (i := 83) rfl)) (hw _ (List.mem_of_getElem? (i := 8) rfl)) (hw _ (List.mem_of_getElem? (i := 85) rfl)) (by decide) (rmag l Z a0 hw r nu en (3 : Int32) tq h0 P311.old hst) (as := [(.ref nu), (.ref en), (.int (3 : Int32)), (.int tq)]) (rest := []) pd_0 rfl rfl (wd := 0) rfl rfl dst_77 all0 (by decide) (by decide) (by decide) (by decide) (fun T360 h360 v360 P360 K360 hQ360 => ?_)
              obtain ⟨rfl, rfl⟩ := hQ360
              show OwnDone p e below _ (T360.setTop (mkF m 80 #[.val (.ref r), .val (.int k1), .val (.int x2), .val (.ref st), .val (.ref nu), .val (.ref en), .val (.ref oa), .val (.int (k1 &&& (3 : Int32))), .val (.int (3 : Int32)), .val (.int tq)] []))
              refine OwnDone.go (A := (T360.setTop (mkF m 84 #[.val (.ref r), .val (.int k1), .val (.int x2), .val (.ref st), .val (.ref nu), .val (.ref en), .val (.ref oa), .val (.int (k1 &&& (3 : Int32))), .val (.int (3 : Int32)), .val (.int tq)] [(.int tq), (.int (3 : Int32))]))) (fun tQ kQ => ?_) ?_
              · refine XS.iload P360.here hx rfl (hb hby dst_80) rfl ?_
                show Steps p.tables e below (T360.setTop (mkF m 82 #[.val (.ref r), .val (.int k1), .val (.int x2), .val (.ref st), .val (.ref nu), .val (.ref en), .val (.ref oa), .val (.int (k1 &&& (3 : Int32))), .val (.int (3 : Int32)), .val (.int tq)] [(.int (3 : Int32))])) _
                refine XS.iload P360.here hx rfl (hb hby dst_82) rfl ?_
                show Steps p.tables e below (T360.setTop (mkF m 84 #[.val (.ref r), .val (.int k1), .val (.int x2), .val (.ref st), .val (.ref nu), .val (.ref en), .val (.ref oa), .val (.int (k1 &&& (3 : Int32))), .val (.int (3 : Int32)), .val (.int tq)] [(.int tq), (.int (3 : Int32))])) _
                exact kQ
              show OwnDone p e below _ (T360.setTop (mkF m 84 #[.val (.ref r), .val (.int k1), .val (.int x2), .val (.ref st), .val (.ref nu), .val (.ref en), .val (.ref oa), .val (.int (k1 &&& (3 : Int32))), .val (.int (3 : Int32)), .val (.int tq)] [(.int tq), (.int (3 : Int32))]))
              refine OwnDone.go (A := (T360.setTop (mkF m 101 #[.val (.ref r), .val (.int k1), .val (.int x2), .val (.ref st), .val (.ref nu), .val (.ref en), .val (.ref oa), .val (.int (k1 &&& (3 : Int32))), .val (.int (3 : Int32)), .val (.int tq)] []))) (fun tQ kQ => XS.icmpYes P360.here hx rfl (pc0 := 84) (pc' := 101) rfl (hb hby dst_84) rfl (XT.ii_ge_t hst) (by decide) (by decide) kQ) ?_
              show OwnDone p e below _ (T360.setTop (mkF m 101 #[.val (.ref r), .val (.int k1), .val (.int x2), .val (.ref st), .val (.ref nu), .val (.ref en), .val (.ref oa), .val (.int (k1 &&& (3 : Int32))), .val (.int (3 : Int32)), .val (.int tq)] []))
              refine OwnDone.go (A := (T360.setTop (mkF m 116 #[.val (.ref r), .val (.int k1), .val (.int x2), .val (.ref st), .val (.ref nu), .val (.ref en), .val (.ref oa), .val (.int (k1 &&& (3 : Int32))), .val (.int (3 : Int32)), .val (.int tq)] []))) (fun tQ kQ => ?_) ?_
              · refine XS.goto P360.here hx rfl (pc0 := 101) (pc' := 116) rfl (hb hby dst_101) (by decide) (by decide) ?_
                show Steps p.tables e below (T360.setTop (mkF m 116 #[.val (.ref r), .val (.int k1), .val (.int x2), .val (.ref st), .val (.ref nu), .val (.ref en), .val (.ref oa), .val (.int (k1 &&& (3 : Int32))), .val (.int (3 : Int32)), .val (.int tq)] [])) _
                exact kQ
              show OwnDone p e below _ (T360.setTop (mkF m 116 #[.val (.ref r), .val (.int k1), .val (.int x2), .val (.ref st), .val (.ref nu), .val (.ref en), .val (.ref oa), .val (.int (k1 &&& (3 : Int32))), .val (.int (3 : Int32)), .val (.int tq)] []))
              rcases j4 with j4 | j4
              · obtain ⟨j4, j5, j6⟩ := j4
                show OwnDone p e below _ (T360.setTop (mkF m 116 #[.val (.ref r), .val (.int k1), .val (.int x2), .val (.ref st), .val (.ref nu), .val (.ref en), .val (.ref oa), .val (.int (k1 &&& (3 : Int32))), .val (.int (3 : Int32)), .val (.int tq)] []))
                refine OwnDone.go (A := (T360.setTop (mkF m 117 #[.val (.ref r), .val (.int k1), .val (.int x2), .val (.ref st), .val (.ref nu), .val (.ref en), .val (.ref oa), .val (.int (k1 &&& (3 : Int32))), .val (.int (3 : Int32)), .val (.int tq)] [(.ref r)]))) (fun tQ kQ => ?_) ?_
                · refine XS.aloadN P360.here hx rfl (hb hby dst_116) rfl rfl ?_
                  show Steps p.tables e below (T360.setTop (mkF m 117 #[.val (.ref r), .val (.int k1), .val (.int x2), .val (.ref st), .val (.ref nu), .val (.ref en), .val (.ref oa), .val (.int (k1 &&& (3 : Int32))), .val (.int (3 : Int32)), .val (.int tq)] [(.ref r)])) _
                  exact kQ
                show OwnDone p e below _ (T360.setTop (mkF m 117 #[.val (.ref r), .val (.int k1), .val (.int x2), .val (.ref st), .val (.ref nu), .val (.ref en), .val (.ref oa), .val (.int (k1 &&& (3 : Int32))), .val (.int (3 : Int32)), .val (.int tq)] [(.ref r)]))
                refine own_callV (y := (⟨"com/example/tidx/tidx/index/Run", "first", "()[Ljava/lang/Object;"⟩ : MethodName)) (z := (⟨"com/example/tidx/tidx/index/Run", "first", "()[Ljava/lang/Object;"⟩ : MethodName)) (CC := "com/example/tidx/tidx/index/Run") C P360 Ob.1 (hw _ (List.mem_of_getElem? (i := 34) rfl)) (hw _ (List.mem_of_getElem? (i := 35) rfl)) (hw _ (List.mem_of_getElem? (i := 37) rfl)) (hw _ (List.mem_of_getElem? (i := 37) rfl)) (hw _ (List.mem_of_getElem? (i := 36) rfl)) (hw _ (List.mem_of_getElem? (i := 8) rfl)) (hw _ (List.mem_of_getElem? (i := 38) rfl)) (by decide) (rmfb l Z a0 hw r aR aV aF aT aO aW kV kF kW vd sl ow sz vv ff ww aW b0 f h0 P360.old Ob YaV YaF YaW j1 j4 j2 j3 j5) (as := []) (rest := []) pd_4 rfl rfl (wd := 0) rfl rfl dst_117 all0 (by decide) (by decide) (by decide) (by decide) (fun T361 h361 v361 P361 K361 hQ361 => ?_)
                obtain ⟨rfl, rfl⟩ := hQ361
                show OwnDone p e below _ (T361.setTop (mkF m 120 #[.val (.ref r), .val (.int k1), .val (.int x2), .val (.ref st), .val (.ref nu), .val (.ref en), .val (.ref oa), .val (.int (k1 &&& (3 : Int32))), .val (.int (3 : Int32)), .val (.int tq)] [(.ref b0)]))
                refine OwnDone.go (A := (T361.setTop (mkF m 123 #[.val (.ref r), .val (.int k1), .val (.int x2), .val (.ref st), .val (.ref nu), .val (.ref en), .val (.ref oa), .val (.int (k1 &&& (3 : Int32))), .val (.int (3 : Int32)), .val (.int tq)] [(.ref b0), (.ref b0)]))) (fun tQ kQ => ?_) ?_
                · refine XS.aloadN P361.here hx rfl (hb hby dst_120) rfl rfl ?_
                  show Steps p.tables e below (T361.setTop (mkF m 121 #[.val (.ref r), .val (.int k1), .val (.int x2), .val (.ref st), .val (.ref nu), .val (.ref en), .val (.ref oa), .val (.int (k1 &&& (3 : Int32))), .val (.int (3 : Int32)), .val (.int tq)] [(.ref st), (.ref b0)])) _
                  refine XS.iconst P361.here hx rfl (hb hby dst_121) ?_
                  show Steps p.tables e below (T361.setTop (mkF m 122 #[.val (.ref r), .val (.int k1), .val (.int x2), .val (.ref st), .val (.ref nu), .val (.ref en), .val (.ref oa), .val (.int (k1 &&& (3 : Int32))), .val (.int (3 : Int32)), .val (.int tq)] [(.int (0 : Int32)), (.ref st), (.ref b0)])) _
                  refine own_aaload C P361 Yst rfl (by decide) rfl dst_122 ?_
                  show Steps p.tables e below (T361.setTop (mkF m 123 #[.val (.ref r), .val (.int k1), .val (.int x2), .val (.ref st), .val (.ref nu), .val (.ref en), .val (.ref oa), .val (.int (k1 &&& (3 : Int32))), .val (.int (3 : Int32)), .val (.int tq)] [(.ref b0), (.ref b0)])) _
                  exact kQ
                show OwnDone p e below _ (T361.setTop (mkF m 123 #[.val (.ref r), .val (.int k1), .val (.int x2), .val (.ref st), .val (.ref nu), .val (.ref en), .val (.ref oa), .val (.int (k1 &&& (3 : Int32))), .val (.int (3 : Int32)), .val (.int tq)] [(.ref b0), (.ref b0)]))
                refine OwnDone.go (A := (T361.setTop (mkF m 126 #[.val (.ref r), .val (.int k1), .val (.int x2), .val (.ref st), .val (.ref nu), .val (.ref en), .val (.ref oa), .val (.int (k1 &&& (3 : Int32))), .val (.int (3 : Int32)), .val (.int tq)] []))) (fun tQ kQ => XT.acmpNo P361.here hx rfl (hb hby dst_123) rfl rfl rfl (XT.aa_ne_f rfl) kQ) ?_
                show OwnDone p e below _ (T361.setTop (mkF m 126 #[.val (.ref r), .val (.int k1), .val (.int x2), .val (.ref st), .val (.ref nu), .val (.ref en), .val (.ref oa), .val (.int (k1 &&& (3 : Int32))), .val (.int (3 : Int32)), .val (.int tq)] []))
                refine OwnDone.go (A := (T361.setTop (mkF m 131 #[.val (.ref r), .val (.int k1), .val (.int x2), .val (.ref st), .val (.ref nu), .val (.ref en), .val (.ref oa), .val (.int (k1 &&& (3 : Int32))), .val (.int (3 : Int32)), .val (.int tq)] [(.int (1 : Int32))]))) (fun tQ kQ => ?_) ?_
                · refine XS.iconst P361.here hx rfl (hb hby dst_126) ?_
                  show Steps p.tables e below (T361.setTop (mkF m 127 #[.val (.ref r), .val (.int k1), .val (.int x2), .val (.ref st), .val (.ref nu), .val (.ref en), .val (.ref oa), .val (.int (k1 &&& (3 : Int32))), .val (.int (3 : Int32)), .val (.int tq)] [(.int (1 : Int32))])) _
                  refine XS.goto P361.here hx rfl (pc0 := 127) (pc' := 131) rfl (hb hby dst_127) (by decide) (by decide) ?_
                  show Steps p.tables e below (T361.setTop (mkF m 131 #[.val (.ref r), .val (.int k1), .val (.int x2), .val (.ref st), .val (.ref nu), .val (.ref en), .val (.ref oa), .val (.int (k1 &&& (3 : Int32))), .val (.int (3 : Int32)), .val (.int tq)] [(.int (1 : Int32))])) _
                  exact kQ
                show OwnDone p e below _ (T361.setTop (mkF m 131 #[.val (.ref r), .val (.int k1), .val (.int x2), .val (.ref st), .val (.ref nu), .val (.ref en), .val (.ref oa), .val (.int (k1 &&& (3 : Int32))), .val (.int (3 : Int32)), .val (.int tq)] [(.int (1 : Int32))]))
                refine own_retN C P361 (by simp) (z' := (1 : Int32)) (by decide) dst_131 (by decide) (by decide) ?_
                refine ⟨rfl, vd, sl, ow, sz, rr, vv, ff, tt, oo, ww, (.ref b0), s1, Ob, YaR, YaV, YaF, YaT, YaO, YaW, Yst, Yen, ⟨lR, lV, lF, lT, lO, lW⟩, ?_, ?_, ?_, ?_⟩
                · exact ⟨bs.1, by have := bs.2; omega⟩
                · exact ⟨bo.1, by have := bo.2; omega⟩
                · exact I1.imp id fun ⟨q1, q2, q3, q4, q5⟩ => ⟨q1, q2, q3, q4, q5⟩
                · exact Or.inr ⟨j1, b0, f, rfl, j2, j3, Or.inl ⟨j4, j5, j6⟩⟩
              · obtain ⟨j4, j5⟩ := j4
                show OwnDone p e below _ (T360.setTop (mkF m 116 #[.val (.ref r), .val (.int k1), .val (.int x2), .val (.ref st), .val (.ref nu), .val (.ref en), .val (.ref oa), .val (.int (k1 &&& (3 : Int32))), .val (.int (3 : Int32)), .val (.int tq)] []))
                refine OwnDone.go (A := (T360.setTop (mkF m 117 #[.val (.ref r), .val (.int k1), .val (.int x2), .val (.ref st), .val (.ref nu), .val (.ref en), .val (.ref oa), .val (.int (k1 &&& (3 : Int32))), .val (.int (3 : Int32)), .val (.int tq)] [(.ref r)]))) (fun tQ kQ => ?_) ?_
                · refine XS.aloadN P360.here hx rfl (hb hby dst_116) rfl rfl ?_
                  show Steps p.tables e below (T360.setTop (mkF m 117 #[.val (.ref r), .val (.int k1), .val (.int x2), .val (.ref st), .val (.ref nu), .val (.ref en), .val (.ref oa), .val (.int (k1 &&& (3 : Int32))), .val (.int (3 : Int32)), .val (.int tq)] [(.ref r)])) _
                  exact kQ
                show OwnDone p e below _ (T360.setTop (mkF m 117 #[.val (.ref r), .val (.int k1), .val (.int x2), .val (.ref st), .val (.ref nu), .val (.ref en), .val (.ref oa), .val (.int (k1 &&& (3 : Int32))), .val (.int (3 : Int32)), .val (.int tq)] [(.ref r)]))
                refine own_callV (y := (⟨"com/example/tidx/tidx/index/Run", "first", "()[Ljava/lang/Object;"⟩ : MethodName)) (z := (⟨"com/example/tidx/tidx/index/Run", "first", "()[Ljava/lang/Object;"⟩ : MethodName)) (CC := "com/example/tidx/tidx/index/Run") C P360 Ob.1 (hw _ (List.mem_of_getElem? (i := 34) rfl)) (hw _ (List.mem_of_getElem? (i := 35) rfl)) (hw _ (List.mem_of_getElem? (i := 37) rfl)) (hw _ (List.mem_of_getElem? (i := 37) rfl)) (hw _ (List.mem_of_getElem? (i := 36) rfl)) (hw _ (List.mem_of_getElem? (i := 8) rfl)) (hw _ (List.mem_of_getElem? (i := 38) rfl)) (by decide) (rmfb l Z a0 hw r aR aV aF aT aO aW kV kF kE vd sl ow sz vv ff [(.ref e0), (.ref e1), (.ref e2), (.ref e3)] en b0 f h0 P360.old Ob YaV YaF Yen j1 j4 j2 j3 j5) (as := []) (rest := []) pd_4 rfl rfl (wd := 0) rfl rfl dst_117 all0 (by decide) (by decide) (by decide) (by decide) (fun T362 h362 v362 P362 K362 hQ362 => ?_)
                obtain ⟨rfl, rfl⟩ := hQ362
                show OwnDone p e below _ (T362.setTop (mkF m 120 #[.val (.ref r), .val (.int k1), .val (.int x2), .val (.ref st), .val (.ref nu), .val (.ref en), .val (.ref oa), .val (.int (k1 &&& (3 : Int32))), .val (.int (3 : Int32)), .val (.int tq)] [(.ref b0)]))
                refine OwnDone.go (A := (T362.setTop (mkF m 123 #[.val (.ref r), .val (.int k1), .val (.int x2), .val (.ref st), .val (.ref nu), .val (.ref en), .val (.ref oa), .val (.int (k1 &&& (3 : Int32))), .val (.int (3 : Int32)), .val (.int tq)] [(.ref b0), (.ref b0)]))) (fun tQ kQ => ?_) ?_
                · refine XS.aloadN P362.here hx rfl (hb hby dst_120) rfl rfl ?_
                  show Steps p.tables e below (T362.setTop (mkF m 121 #[.val (.ref r), .val (.int k1), .val (.int x2), .val (.ref st), .val (.ref nu), .val (.ref en), .val (.ref oa), .val (.int (k1 &&& (3 : Int32))), .val (.int (3 : Int32)), .val (.int tq)] [(.ref st), (.ref b0)])) _
                  refine XS.iconst P362.here hx rfl (hb hby dst_121) ?_
                  show Steps p.tables e below (T362.setTop (mkF m 122 #[.val (.ref r), .val (.int k1), .val (.int x2), .val (.ref st), .val (.ref nu), .val (.ref en), .val (.ref oa), .val (.int (k1 &&& (3 : Int32))), .val (.int (3 : Int32)), .val (.int tq)] [(.int (0 : Int32)), (.ref st), (.ref b0)])) _
                  refine own_aaload C P362 Yst rfl (by decide) rfl dst_122 ?_
                  show Steps p.tables e below (T362.setTop (mkF m 123 #[.val (.ref r), .val (.int k1), .val (.int x2), .val (.ref st), .val (.ref nu), .val (.ref en), .val (.ref oa), .val (.int (k1 &&& (3 : Int32))), .val (.int (3 : Int32)), .val (.int tq)] [(.ref b0), (.ref b0)])) _
                  exact kQ
                show OwnDone p e below _ (T362.setTop (mkF m 123 #[.val (.ref r), .val (.int k1), .val (.int x2), .val (.ref st), .val (.ref nu), .val (.ref en), .val (.ref oa), .val (.int (k1 &&& (3 : Int32))), .val (.int (3 : Int32)), .val (.int tq)] [(.ref b0), (.ref b0)]))
                refine OwnDone.go (A := (T362.setTop (mkF m 126 #[.val (.ref r), .val (.int k1), .val (.int x2), .val (.ref st), .val (.ref nu), .val (.ref en), .val (.ref oa), .val (.int (k1 &&& (3 : Int32))), .val (.int (3 : Int32)), .val (.int tq)] []))) (fun tQ kQ => XT.acmpNo P362.here hx rfl (hb hby dst_123) rfl rfl rfl (XT.aa_ne_f rfl) kQ) ?_
                show OwnDone p e below _ (T362.setTop (mkF m 126 #[.val (.ref r), .val (.int k1), .val (.int x2), .val (.ref st), .val (.ref nu), .val (.ref en), .val (.ref oa), .val (.int (k1 &&& (3 : Int32))), .val (.int (3 : Int32)), .val (.int tq)] []))
                refine OwnDone.go (A := (T362.setTop (mkF m 131 #[.val (.ref r), .val (.int k1), .val (.int x2), .val (.ref st), .val (.ref nu), .val (.ref en), .val (.ref oa), .val (.int (k1 &&& (3 : Int32))), .val (.int (3 : Int32)), .val (.int tq)] [(.int (1 : Int32))]))) (fun tQ kQ => ?_) ?_
                · refine XS.iconst P362.here hx rfl (hb hby dst_126) ?_
                  show Steps p.tables e below (T362.setTop (mkF m 127 #[.val (.ref r), .val (.int k1), .val (.int x2), .val (.ref st), .val (.ref nu), .val (.ref en), .val (.ref oa), .val (.int (k1 &&& (3 : Int32))), .val (.int (3 : Int32)), .val (.int tq)] [(.int (1 : Int32))])) _
                  refine XS.goto P362.here hx rfl (pc0 := 127) (pc' := 131) rfl (hb hby dst_127) (by decide) (by decide) ?_
                  show Steps p.tables e below (T362.setTop (mkF m 131 #[.val (.ref r), .val (.int k1), .val (.int x2), .val (.ref st), .val (.ref nu), .val (.ref en), .val (.ref oa), .val (.int (k1 &&& (3 : Int32))), .val (.int (3 : Int32)), .val (.int tq)] [(.int (1 : Int32))])) _
                  exact kQ
                show OwnDone p e below _ (T362.setTop (mkF m 131 #[.val (.ref r), .val (.int k1), .val (.int x2), .val (.ref st), .val (.ref nu), .val (.ref en), .val (.ref oa), .val (.int (k1 &&& (3 : Int32))), .val (.int (3 : Int32)), .val (.int tq)] [(.int (1 : Int32))]))
                refine own_retN C P362 (by simp) (z' := (1 : Int32)) (by decide) dst_131 (by decide) (by decide) ?_
                refine ⟨rfl, vd, sl, ow, sz, rr, vv, ff, tt, oo, ww, (.ref b0), s1, Ob, YaR, YaV, YaF, YaT, YaO, YaW, Yst, Yen, ⟨lR, lV, lF, lT, lO, lW⟩, ?_, ?_, ?_, ?_⟩
                · exact ⟨bs.1, by have := bs.2; omega⟩
                · exact ⟨bo.1, by have := bo.2; omega⟩
                · exact I1.imp id fun ⟨q1, q2, q3, q4, q5⟩ => ⟨q1, q2, q3, q4, q5⟩
                · exact Or.inr ⟨j1, b0, f, rfl, j2, j3, Or.inr ⟨j4, j5⟩⟩
      · refine OwnDone.go (A := (T.setTop (mkF m 104 #[.val (.ref r), .val (.int k1), .val (.int x2), .val (.ref st), .val (.ref nu), .val (.ref en), .val (.ref oa), .val (.int (k1 &&& (3 : Int32))), .unset, .unset] []))) (fun tQ kQ => XS.icmpYes P.here hx rfl (pc0 := 46) (pc' := 104) rfl (hb hby dst_46) rfl (XT.ii_ne_t hc46) (by decide) (by decide) kQ) ?_
        show OwnDone p e below _ (T.setTop (mkF m 104 #[.val (.ref r), .val (.int k1), .val (.int x2), .val (.ref st), .val (.ref nu), .val (.ref en), .val (.ref oa), .val (.int (k1 &&& (3 : Int32))), .unset, .unset] []))
        rcases own_012 bo hn with how | how | how
        · subst how
          show OwnDone p e below _ (T.setTop (mkF m 104 #[.val (.ref r), .val (.int k1), .val (.int x2), .val (.ref st), .val (.ref nu), .val (.ref en), .val (.ref oa), .val (.int (k1 &&& (3 : Int32))), .unset, .unset] []))
          refine OwnDone.go (A := (T.setTop (mkF m 105 #[.val (.ref r), .val (.int k1), .val (.int x2), .val (.ref st), .val (.ref nu), .val (.ref en), .val (.ref oa), .val (.int (k1 &&& (3 : Int32))), .unset, .unset] [(.ref r)]))) (fun tQ kQ => ?_) ?_
          · refine XS.aloadN P.here hx rfl (hb hby dst_104) rfl rfl ?_
            show Steps p.tables e below (T.setTop (mkF m 105 #[.val (.ref r), .val (.int k1), .val (.int x2), .val (.ref st), .val (.ref nu), .val (.ref en), .val (.ref oa), .val (.int (k1 &&& (3 : Int32))), .unset, .unset] [(.ref r)])) _
            exact kQ
          show OwnDone p e below _ (T.setTop (mkF m 105 #[.val (.ref r), .val (.int k1), .val (.int x2), .val (.ref st), .val (.ref nu), .val (.ref en), .val (.ref oa), .val (.int (k1 &&& (3 : Int32))), .unset, .unset] [(.ref r)]))
          refine own_callV (y := (⟨"com/example/tidx/tidx/index/Run", "clear", "()V"⟩ : MethodName)) (z := (⟨"com/example/tidx/tidx/index/Run", "clear", "()V"⟩ : MethodName)) (CC := "com/example/tidx/tidx/index/Run") C P Ob.1 (hw _ (List.mem_of_getElem? (i := 61) rfl)) (hw _ (List.mem_of_getElem? (i := 62) rfl)) (hw _ (List.mem_of_getElem? (i := 64) rfl)) (hw _ (List.mem_of_getElem? (i := 64) rfl)) (hw _ (List.mem_of_getElem? (i := 63) rfl)) (hw _ (List.mem_of_getElem? (i := 8) rfl)) (hw _ (List.mem_of_getElem? (i := 65) rfl)) (by decide) (rmcl0 l Z a0 hw r aR aV aF aT aO aW kW vd sl sz ww h0 P.old g_r g_aW Ob YaW lW (by omega)) (as := []) (rest := []) pd_6 rfl rfl (wd := 0) rfl rfl dst_105 (allS (Or.inl (List.mem_of_getElem? (i := 1) rfl)) (allS (Or.inl (List.mem_of_getElem? (i := 7) rfl)) all0)) (by decide) (by decide) (by decide) (by decide) (fun T363 h363 v363 P363 K363 hQ363 => ?_)
          obtain ⟨rfl, Ob363, ww363, YaW363, lW363⟩ := hQ363
          have I364_nu := own_insK In K363
          have I365_en := own_insK Ie K363
          have I366_oa := own_insK Ia K363
          have I367_oa := own_insK Ib K363
          have I368_e0 := own_insK Ie0 K363
          have I369_e1 := own_insK Ie1 K363
          have I370_e2 := own_insK Ie2 K363
          have I371_e3 := own_insK Ie3 K363
          have Y372_aR := YaR.keep K363 (ninS (own_neL (by omega)) (ninS (own_neL (by omega)) nin0))
          have Y373_aV := YaV.keep K363 (ninS (own_neL (by omega)) (ninS (own_neL (by omega)) nin0))
          have Y374_aF := YaF.keep K363 (ninS (own_neL (by omega)) (ninS (own_neL (by omega)) nin0))
          have Y375_aT := YaT.keep K363 (ninS (own_neL (by omega)) (ninS (own_neL (by omega)) nin0))
          have Y376_aO := YaO.keep K363 (ninS (own_neL (by omega)) (ninS (own_neL (by omega)) nin0))
          have Y377_st := Yst.keep K363 (ninS (own_neL (by omega)) (ninS (own_neL (by omega)) nin0))
          have Y378_en := Yen.keep K363 (ninS (own_neL (by omega)) (ninS (own_neL (by omega)) nin0))
          show OwnDone p e below _ (T363.setTop (mkF m 108 #[.val (.ref r), .val (.int k1), .val (.int x2), .val (.ref st), .val (.ref nu), .val (.ref en), .val (.ref oa), .val (.int (k1 &&& (3 : Int32))), .unset, .unset] []))
          refine OwnDone.go (A := (T363.setTop (mkF m 111 #[.val (.ref r), .val (.int k1), .val (.int x2), .val (.ref st), .val (.ref nu), .val (.ref en), .val (.ref oa), .val (.int (k1 &&& (3 : Int32))), .unset, .unset] [.null, (.int (0 : Int32)), (.ref st)]))) (fun tQ kQ => ?_) ?_
          · refine XS.aloadN P363.here hx rfl (hb hby dst_108) rfl rfl ?_
            show Steps p.tables e below (T363.setTop (mkF m 109 #[.val (.ref r), .val (.int k1), .val (.int x2), .val (.ref st), .val (.ref nu), .val (.ref en), .val (.ref oa), .val (.int (k1 &&& (3 : Int32))), .unset, .unset] [(.ref st)])) _
            refine XS.iconst P363.here hx rfl (hb hby dst_109) ?_
            show Steps p.tables e below (T363.setTop (mkF m 110 #[.val (.ref r), .val (.int k1), .val (.int x2), .val (.ref st), .val (.ref nu), .val (.ref en), .val (.ref oa), .val (.int (k1 &&& (3 : Int32))), .unset, .unset] [(.int (0 : Int32)), (.ref st)])) _
            refine XS.aconstNull P363.here hx rfl (hb hby dst_110) ?_
            show Steps p.tables e below (T363.setTop (mkF m 111 #[.val (.ref r), .val (.int k1), .val (.int x2), .val (.ref st), .val (.ref nu), .val (.ref en), .val (.ref oa), .val (.int (k1 &&& (3 : Int32))), .unset, .unset] [.null, (.int (0 : Int32)), (.ref st)])) _
            exact kQ
          show OwnDone p e below _ (T363.setTop (mkF m 111 #[.val (.ref r), .val (.int k1), .val (.int x2), .val (.ref st), .val (.ref nu), .val (.ref en), .val (.ref oa), .val (.int (k1 &&& (3 : Int32))), .unset, .unset] [.null, (.int (0 : Int32)), (.ref st)]))
          refine own_aastore C P363 Y377_st rfl (by decide) (show ((0 : Int32) : Int32).toNatClampNeg < 2 from by decide) (Or.inl rfl) (Or.inl (List.mem_of_getElem? (i := 0) rfl)) dst_111 (vs' := [.null, s1]) rfl (fun T379 h379 P379 K379 Y379 => ?_)
          have I380_nu := own_insK I364_nu K379
          have I381_en := own_insK I365_en K379
          have I382_oa := own_insK I366_oa K379
          have I383_oa := own_insK I367_oa K379
          have I384_e0 := own_insK I368_e0 K379
          have I385_e1 := own_insK I369_e1 K379
          have I386_e2 := own_insK I370_e2 K379
          have I387_e3 := own_insK I371_e3 K379
          have O388_r := Ob363.keep K379 (ninS (own_neL (by omega)) nin0)
          have Y389_aR := Y372_aR.keep K379 (ninS (own_neL (by omega)) nin0)
          have Y390_aV := Y373_aV.keep K379 (ninS (own_neL (by omega)) nin0)
          have Y391_aF := Y374_aF.keep K379 (ninS (own_neL (by omega)) nin0)
          have Y392_aT := Y375_aT.keep K379 (ninS (own_neL (by omega)) nin0)
          have Y393_aO := Y376_aO.keep K379 (ninS (own_neL (by omega)) nin0)
          have Y394_aW := YaW363.keep K379 (ninS (own_neL (by omega)) nin0)
          have Y395_en := Y378_en.keep K379 (ninS (own_neL (by omega)) nin0)
          show OwnDone p e below _ (T379.setTop (mkF m 112 #[.val (.ref r), .val (.int k1), .val (.int x2), .val (.ref st), .val (.ref nu), .val (.ref en), .val (.ref oa), .val (.int (k1 &&& (3 : Int32))), .unset, .unset] []))
          refine OwnDone.go (A := (T379.setTop (mkF m 115 #[.val (.ref r), .val (.int k1), .val (.int x2), .val (.ref st), .val (.ref nu), .val (.ref en), .val (.ref oa), .val (.int (k1 &&& (3 : Int32))), .unset, .unset] [.null, (.int (1 : Int32)), (.ref st)]))) (fun tQ kQ => ?_) ?_
          · refine XS.aloadN P379.here hx rfl (hb hby dst_112) rfl rfl ?_
            show Steps p.tables e below (T379.setTop (mkF m 113 #[.val (.ref r), .val (.int k1), .val (.int x2), .val (.ref st), .val (.ref nu), .val (.ref en), .val (.ref oa), .val (.int (k1 &&& (3 : Int32))), .unset, .unset] [(.ref st)])) _
            refine XS.iconst P379.here hx rfl (hb hby dst_113) ?_
            show Steps p.tables e below (T379.setTop (mkF m 114 #[.val (.ref r), .val (.int k1), .val (.int x2), .val (.ref st), .val (.ref nu), .val (.ref en), .val (.ref oa), .val (.int (k1 &&& (3 : Int32))), .unset, .unset] [(.int (1 : Int32)), (.ref st)])) _
            refine XS.aconstNull P379.here hx rfl (hb hby dst_114) ?_
            show Steps p.tables e below (T379.setTop (mkF m 115 #[.val (.ref r), .val (.int k1), .val (.int x2), .val (.ref st), .val (.ref nu), .val (.ref en), .val (.ref oa), .val (.int (k1 &&& (3 : Int32))), .unset, .unset] [.null, (.int (1 : Int32)), (.ref st)])) _
            exact kQ
          show OwnDone p e below _ (T379.setTop (mkF m 115 #[.val (.ref r), .val (.int k1), .val (.int x2), .val (.ref st), .val (.ref nu), .val (.ref en), .val (.ref oa), .val (.int (k1 &&& (3 : Int32))), .unset, .unset] [.null, (.int (1 : Int32)), (.ref st)]))
          refine own_aastore C P379 Y379 rfl (by decide) (show ((1 : Int32) : Int32).toNatClampNeg < 2 from by decide) (Or.inl rfl) (Or.inl (List.mem_of_getElem? (i := 0) rfl)) dst_115 (vs' := [.null, .null]) rfl (fun T396 h396 P396 K396 Y396 => ?_)
          have I397_nu := own_insK I380_nu K396
          have I398_en := own_insK I381_en K396
          have I399_oa := own_insK I382_oa K396
          have I400_oa := own_insK I383_oa K396
          have I401_e0 := own_insK I384_e0 K396
          have I402_e1 := own_insK I385_e1 K396
          have I403_e2 := own_insK I386_e2 K396
          have I404_e3 := own_insK I387_e3 K396
          have O405_r := O388_r.keep K396 (ninS (own_neL (by omega)) nin0)
          have Y406_aR := Y389_aR.keep K396 (ninS (own_neL (by omega)) nin0)
          have Y407_aV := Y390_aV.keep K396 (ninS (own_neL (by omega)) nin0)
          have Y408_aF := Y391_aF.keep K396 (ninS (own_neL (by omega)) nin0)
          have Y409_aT := Y392_aT.keep K396 (ninS (own_neL (by omega)) nin0)
          have Y410_aO := Y393_aO.keep K396 (ninS (own_neL (by omega)) nin0)
          have Y411_aW := Y394_aW.keep K396 (ninS (own_neL (by omega)) nin0)
          have Y412_en := Y395_en.keep K396 (ninS (own_neL (by omega)) nin0)
          show OwnDone p e below _ (T396.setTop (mkF m 116 #[.val (.ref r), .val (.int k1), .val (.int x2), .val (.ref st), .val (.ref nu), .val (.ref en), .val (.ref oa), .val (.int (k1 &&& (3 : Int32))), .unset, .unset] []))
          refine OwnDone.go (A := (T396.setTop (mkF m 117 #[.val (.ref r), .val (.int k1), .val (.int x2), .val (.ref st), .val (.ref nu), .val (.ref en), .val (.ref oa), .val (.int (k1 &&& (3 : Int32))), .unset, .unset] [(.ref r)]))) (fun tQ kQ => ?_) ?_
          · refine XS.aloadN P396.here hx rfl (hb hby dst_116) rfl rfl ?_
            show Steps p.tables e below (T396.setTop (mkF m 117 #[.val (.ref r), .val (.int k1), .val (.int x2), .val (.ref st), .val (.ref nu), .val (.ref en), .val (.ref oa), .val (.int (k1 &&& (3 : Int32))), .unset, .unset] [(.ref r)])) _
            exact kQ
          show OwnDone p e below _ (T396.setTop (mkF m 117 #[.val (.ref r), .val (.int k1), .val (.int x2), .val (.ref st), .val (.ref nu), .val (.ref en), .val (.ref oa), .val (.int (k1 &&& (3 : Int32))), .unset, .unset] [(.ref r)]))
          refine own_callV (y := (⟨"com/example/tidx/tidx/index/Run", "first", "()[Ljava/lang/Object;"⟩ : MethodName)) (z := (⟨"com/example/tidx/tidx/index/Run", "first", "()[Ljava/lang/Object;"⟩ : MethodName)) (CC := "com/example/tidx/tidx/index/Run") C P396 O405_r.1 (hw _ (List.mem_of_getElem? (i := 34) rfl)) (hw _ (List.mem_of_getElem? (i := 35) rfl)) (hw _ (List.mem_of_getElem? (i := 37) rfl)) (hw _ (List.mem_of_getElem? (i := 37) rfl)) (hw _ (List.mem_of_getElem? (i := 36) rfl)) (hw _ (List.mem_of_getElem? (i := 8) rfl)) (hw _ (List.mem_of_getElem? (i := 38) rfl)) (by decide) (rmfa l Z a0 hw r aR aV aF aT aO aW vd (0 : Int32) (0 : Int32) h396 P396.old O405_r) (as := []) (rest := []) pd_4 rfl rfl (wd := 0) rfl rfl dst_117 all0 (by decide) (by decide) (by decide) (by decide) (fun T413 h413 v413 P413 K413 hQ413 => ?_)
          obtain ⟨rfl, rfl⟩ := hQ413
          show OwnDone p e below _ (T413.setTop (mkF m 120 #[.val (.ref r), .val (.int k1), .val (.int x2), .val (.ref st), .val (.ref nu), .val (.ref en), .val (.ref oa), .val (.int (k1 &&& (3 : Int32))), .unset, .unset] [.null]))
          refine OwnDone.go (A := (T413.setTop (mkF m 123 #[.val (.ref r), .val (.int k1), .val (.int x2), .val (.ref st), .val (.ref nu), .val (.ref en), .val (.ref oa), .val (.int (k1 &&& (3 : Int32))), .unset, .unset] [.null, .null]))) (fun tQ kQ => ?_) ?_
          · refine XS.aloadN P413.here hx rfl (hb hby dst_120) rfl rfl ?_
            show Steps p.tables e below (T413.setTop (mkF m 121 #[.val (.ref r), .val (.int k1), .val (.int x2), .val (.ref st), .val (.ref nu), .val (.ref en), .val (.ref oa), .val (.int (k1 &&& (3 : Int32))), .unset, .unset] [(.ref st), .null])) _
            refine XS.iconst P413.here hx rfl (hb hby dst_121) ?_
            show Steps p.tables e below (T413.setTop (mkF m 122 #[.val (.ref r), .val (.int k1), .val (.int x2), .val (.ref st), .val (.ref nu), .val (.ref en), .val (.ref oa), .val (.int (k1 &&& (3 : Int32))), .unset, .unset] [(.int (0 : Int32)), (.ref st), .null])) _
            refine own_aaload C P413 Y396 rfl (by decide) rfl dst_122 ?_
            show Steps p.tables e below (T413.setTop (mkF m 123 #[.val (.ref r), .val (.int k1), .val (.int x2), .val (.ref st), .val (.ref nu), .val (.ref en), .val (.ref oa), .val (.int (k1 &&& (3 : Int32))), .unset, .unset] [.null, .null])) _
            exact kQ
          show OwnDone p e below _ (T413.setTop (mkF m 123 #[.val (.ref r), .val (.int k1), .val (.int x2), .val (.ref st), .val (.ref nu), .val (.ref en), .val (.ref oa), .val (.int (k1 &&& (3 : Int32))), .unset, .unset] [.null, .null]))
          refine OwnDone.go (A := (T413.setTop (mkF m 126 #[.val (.ref r), .val (.int k1), .val (.int x2), .val (.ref st), .val (.ref nu), .val (.ref en), .val (.ref oa), .val (.int (k1 &&& (3 : Int32))), .unset, .unset] []))) (fun tQ kQ => XT.acmpNo P413.here hx rfl (hb hby dst_123) rfl rfl rfl (XT.aa_ne_f rfl) kQ) ?_
          show OwnDone p e below _ (T413.setTop (mkF m 126 #[.val (.ref r), .val (.int k1), .val (.int x2), .val (.ref st), .val (.ref nu), .val (.ref en), .val (.ref oa), .val (.int (k1 &&& (3 : Int32))), .unset, .unset] []))
          refine OwnDone.go (A := (T413.setTop (mkF m 131 #[.val (.ref r), .val (.int k1), .val (.int x2), .val (.ref st), .val (.ref nu), .val (.ref en), .val (.ref oa), .val (.int (k1 &&& (3 : Int32))), .unset, .unset] [(.int (1 : Int32))]))) (fun tQ kQ => ?_) ?_
          · refine XS.iconst P413.here hx rfl (hb hby dst_126) ?_
            show Steps p.tables e below (T413.setTop (mkF m 127 #[.val (.ref r), .val (.int k1), .val (.int x2), .val (.ref st), .val (.ref nu), .val (.ref en), .val (.ref oa), .val (.int (k1 &&& (3 : Int32))), .unset, .unset] [(.int (1 : Int32))])) _
            refine XS.goto P413.here hx rfl (pc0 := 127) (pc' := 131) rfl (hb hby dst_127) (by decide) (by decide) ?_
            show Steps p.tables e below (T413.setTop (mkF m 131 #[.val (.ref r), .val (.int k1), .val (.int x2), .val (.ref st), .val (.ref nu), .val (.ref en), .val (.ref oa), .val (.int (k1 &&& (3 : Int32))), .unset, .unset] [(.int (1 : Int32))])) _
            exact kQ
          show OwnDone p e below _ (T413.setTop (mkF m 131 #[.val (.ref r), .val (.int k1), .val (.int x2), .val (.ref st), .val (.ref nu), .val (.ref en), .val (.ref oa), .val (.int (k1 &&& (3 : Int32))), .unset, .unset] [(.int (1 : Int32))]))
          refine own_retN C P413 (by simp) (z' := (1 : Int32)) (by decide) dst_131 (by decide) (by decide) ?_
          refine ⟨rfl, vd, (0 : Int32), (0 : Int32), (0 : Int32), rr, vv, ff, tt, oo, ww363, .null, .null, O405_r, Y406_aR, Y407_aV, Y408_aF, Y409_aT, Y410_aO, Y411_aW, Y396, Y412_en, ⟨lR, lV, lF, lT, lO, lW363⟩, ?_, ?_, ?_, ?_⟩
          · exact ⟨by decide, by have := bs; have e0 : (0 : Int32).toInt = 0 := (by decide); omega⟩
          · exact ⟨by decide, by have := bs; have e0 : (0 : Int32).toInt = 0 := (by decide); omega⟩
          · exact Or.inl ⟨rfl, rfl⟩
          · exact Or.inl ⟨rfl, rfl⟩
        · subst how
          show OwnDone p e below _ (T.setTop (mkF m 104 #[.val (.ref r), .val (.int k1), .val (.int x2), .val (.ref st), .val (.ref nu), .val (.ref en), .val (.ref oa), .val (.int (k1 &&& (3 : Int32))), .unset, .unset] []))
          refine OwnDone.go (A := (T.setTop (mkF m 105 #[.val (.ref r), .val (.int k1), .val (.int x2), .val (.ref st), .val (.ref nu), .val (.ref en), .val (.ref oa), .val (.int (k1 &&& (3 : Int32))), .unset, .unset] [(.ref r)]))) (fun tQ kQ => ?_) ?_
          · refine XS.aloadN P.here hx rfl (hb hby dst_104) rfl rfl ?_
            show Steps p.tables e below (T.setTop (mkF m 105 #[.val (.ref r), .val (.int k1), .val (.int x2), .val (.ref st), .val (.ref nu), .val (.ref en), .val (.ref oa), .val (.int (k1 &&& (3 : Int32))), .unset, .unset] [(.ref r)])) _
            exact kQ
          show OwnDone p e below _ (T.setTop (mkF m 105 #[.val (.ref r), .val (.int k1), .val (.int x2), .val (.ref st), .val (.ref nu), .val (.ref en), .val (.ref oa), .val (.int (k1 &&& (3 : Int32))), .unset, .unset] [(.ref r)]))
          refine own_callV (y := (⟨"com/example/tidx/tidx/index/Run", "clear", "()V"⟩ : MethodName)) (z := (⟨"com/example/tidx/tidx/index/Run", "clear", "()V"⟩ : MethodName)) (CC := "com/example/tidx/tidx/index/Run") C P Ob.1 (hw _ (List.mem_of_getElem? (i := 61) rfl)) (hw _ (List.mem_of_getElem? (i := 62) rfl)) (hw _ (List.mem_of_getElem? (i := 64) rfl)) (hw _ (List.mem_of_getElem? (i := 64) rfl)) (hw _ (List.mem_of_getElem? (i := 63) rfl)) (hw _ (List.mem_of_getElem? (i := 8) rfl)) (hw _ (List.mem_of_getElem? (i := 65) rfl)) (by decide) (rmcl1 l Z a0 hw r aR aV aF aT aO aW kW vd sl sz ww h0 P.old g_r g_aW Ob YaW lW (by omega)) (as := []) (rest := []) pd_6 rfl rfl (wd := 0) rfl rfl dst_105 (allS (Or.inl (List.mem_of_getElem? (i := 1) rfl)) (allS (Or.inl (List.mem_of_getElem? (i := 7) rfl)) all0)) (by decide) (by decide) (by decide) (by decide) (fun T414 h414 v414 P414 K414 hQ414 => ?_)
          obtain ⟨rfl, Ob414, ww414, YaW414, lW414⟩ := hQ414
          have I415_nu := own_insK In K414
          have I416_en := own_insK Ie K414
          have I417_oa := own_insK Ia K414
          have I418_oa := own_insK Ib K414
          have I419_e0 := own_insK Ie0 K414
          have I420_e1 := own_insK Ie1 K414
          have I421_e2 := own_insK Ie2 K414
          have I422_e3 := own_insK Ie3 K414
          have Y423_aR := YaR.keep K414 (ninS (own_neL (by omega)) (ninS (own_neL (by omega)) nin0))
          have Y424_aV := YaV.keep K414 (ninS (own_neL (by omega)) (ninS (own_neL (by omega)) nin0))
          have Y425_aF := YaF.keep K414 (ninS (own_neL (by omega)) (ninS (own_neL (by omega)) nin0))
          have Y426_aT := YaT.keep K414 (ninS (own_neL (by omega)) (ninS (own_neL (by omega)) nin0))
          have Y427_aO := YaO.keep K414 (ninS (own_neL (by omega)) (ninS (own_neL (by omega)) nin0))
          have Y428_st := Yst.keep K414 (ninS (own_neL (by omega)) (ninS (own_neL (by omega)) nin0))
          have Y429_en := Yen.keep K414 (ninS (own_neL (by omega)) (ninS (own_neL (by omega)) nin0))
          show OwnDone p e below _ (T414.setTop (mkF m 108 #[.val (.ref r), .val (.int k1), .val (.int x2), .val (.ref st), .val (.ref nu), .val (.ref en), .val (.ref oa), .val (.int (k1 &&& (3 : Int32))), .unset, .unset] []))
          refine OwnDone.go (A := (T414.setTop (mkF m 111 #[.val (.ref r), .val (.int k1), .val (.int x2), .val (.ref st), .val (.ref nu), .val (.ref en), .val (.ref oa), .val (.int (k1 &&& (3 : Int32))), .unset, .unset] [.null, (.int (0 : Int32)), (.ref st)]))) (fun tQ kQ => ?_) ?_
          · refine XS.aloadN P414.here hx rfl (hb hby dst_108) rfl rfl ?_
            show Steps p.tables e below (T414.setTop (mkF m 109 #[.val (.ref r), .val (.int k1), .val (.int x2), .val (.ref st), .val (.ref nu), .val (.ref en), .val (.ref oa), .val (.int (k1 &&& (3 : Int32))), .unset, .unset] [(.ref st)])) _
            refine XS.iconst P414.here hx rfl (hb hby dst_109) ?_
            show Steps p.tables e below (T414.setTop (mkF m 110 #[.val (.ref r), .val (.int k1), .val (.int x2), .val (.ref st), .val (.ref nu), .val (.ref en), .val (.ref oa), .val (.int (k1 &&& (3 : Int32))), .unset, .unset] [(.int (0 : Int32)), (.ref st)])) _
            refine XS.aconstNull P414.here hx rfl (hb hby dst_110) ?_
            show Steps p.tables e below (T414.setTop (mkF m 111 #[.val (.ref r), .val (.int k1), .val (.int x2), .val (.ref st), .val (.ref nu), .val (.ref en), .val (.ref oa), .val (.int (k1 &&& (3 : Int32))), .unset, .unset] [.null, (.int (0 : Int32)), (.ref st)])) _
            exact kQ
          show OwnDone p e below _ (T414.setTop (mkF m 111 #[.val (.ref r), .val (.int k1), .val (.int x2), .val (.ref st), .val (.ref nu), .val (.ref en), .val (.ref oa), .val (.int (k1 &&& (3 : Int32))), .unset, .unset] [.null, (.int (0 : Int32)), (.ref st)]))
          refine own_aastore C P414 Y428_st rfl (by decide) (show ((0 : Int32) : Int32).toNatClampNeg < 2 from by decide) (Or.inl rfl) (Or.inl (List.mem_of_getElem? (i := 0) rfl)) dst_111 (vs' := [.null, s1]) rfl (fun T430 h430 P430 K430 Y430 => ?_)
          have I431_nu := own_insK I415_nu K430
          have I432_en := own_insK I416_en K430
          have I433_oa := own_insK I417_oa K430
          have I434_oa := own_insK I418_oa K430
          have I435_e0 := own_insK I419_e0 K430
          have I436_e1 := own_insK I420_e1 K430
          have I437_e2 := own_insK I421_e2 K430
          have I438_e3 := own_insK I422_e3 K430
          have O439_r := Ob414.keep K430 (ninS (own_neL (by omega)) nin0)
          have Y440_aR := Y423_aR.keep K430 (ninS (own_neL (by omega)) nin0)
          have Y441_aV := Y424_aV.keep K430 (ninS (own_neL (by omega)) nin0)
          have Y442_aF := Y425_aF.keep K430 (ninS (own_neL (by omega)) nin0)
          have Y443_aT := Y426_aT.keep K430 (ninS (own_neL (by omega)) nin0)
          have Y444_aO := Y427_aO.keep K430 (ninS (own_neL (by omega)) nin0)
          have Y445_aW := YaW414.keep K430 (ninS (own_neL (by omega)) nin0)
          have Y446_en := Y429_en.keep K430 (ninS (own_neL (by omega)) nin0)
          show OwnDone p e below _ (T430.setTop (mkF m 112 #[.val (.ref r), .val (.int k1), .val (.int x2), .val (.ref st), .val (.ref nu), .val (.ref en), .val (.ref oa), .val (.int (k1 &&& (3 : Int32))), .unset, .unset] []))
          refine OwnDone.go (A := (T430.setTop (mkF m 115 #[.val (.ref r), .val (.int k1), .val (.int x2), .val (.ref st), .val (.ref nu), .val (.ref en), .val (.ref oa), .val (.int (k1 &&& (3 : Int32))), .unset, .unset] [.null, (.int (1 : Int32)), (.ref st)]))) (fun tQ kQ => ?_) ?_
          · refine XS.aloadN P430.here hx rfl (hb hby dst_112) rfl rfl ?_
            show Steps p.tables e below (T430.setTop (mkF m 113 #[.val (.ref r), .val (.int k1), .val (.int x2), .val (.ref st), .val (.ref nu), .val (.ref en), .val (.ref oa), .val (.int (k1 &&& (3 : Int32))), .unset, .unset] [(.ref st)])) _
            refine XS.iconst P430.here hx rfl (hb hby dst_113) ?_
            show Steps p.tables e below (T430.setTop (mkF m 114 #[.val (.ref r), .val (.int k1), .val (.int x2), .val (.ref st), .val (.ref nu), .val (.ref en), .val (.ref oa), .val (.int (k1 &&& (3 : Int32))), .unset, .unset] [(.int (1 : Int32)), (.ref st)])) _
            refine XS.aconstNull P430.here hx rfl (hb hby dst_114) ?_
            show Steps p.tables e below (T430.setTop (mkF m 115 #[.val (.ref r), .val (.int k1), .val (.int x2), .val (.ref st), .val (.ref nu), .val (.ref en), .val (.ref oa), .val (.int (k1 &&& (3 : Int32))), .unset, .unset] [.null, (.int (1 : Int32)), (.ref st)])) _
            exact kQ
          show OwnDone p e below _ (T430.setTop (mkF m 115 #[.val (.ref r), .val (.int k1), .val (.int x2), .val (.ref st), .val (.ref nu), .val (.ref en), .val (.ref oa), .val (.int (k1 &&& (3 : Int32))), .unset, .unset] [.null, (.int (1 : Int32)), (.ref st)]))
          refine own_aastore C P430 Y430 rfl (by decide) (show ((1 : Int32) : Int32).toNatClampNeg < 2 from by decide) (Or.inl rfl) (Or.inl (List.mem_of_getElem? (i := 0) rfl)) dst_115 (vs' := [.null, .null]) rfl (fun T447 h447 P447 K447 Y447 => ?_)
          have I448_nu := own_insK I431_nu K447
          have I449_en := own_insK I432_en K447
          have I450_oa := own_insK I433_oa K447
          have I451_oa := own_insK I434_oa K447
          have I452_e0 := own_insK I435_e0 K447
          have I453_e1 := own_insK I436_e1 K447
          have I454_e2 := own_insK I437_e2 K447
          have I455_e3 := own_insK I438_e3 K447
          have O456_r := O439_r.keep K447 (ninS (own_neL (by omega)) nin0)
          have Y457_aR := Y440_aR.keep K447 (ninS (own_neL (by omega)) nin0)
          have Y458_aV := Y441_aV.keep K447 (ninS (own_neL (by omega)) nin0)
          have Y459_aF := Y442_aF.keep K447 (ninS (own_neL (by omega)) nin0)
          have Y460_aT := Y443_aT.keep K447 (ninS (own_neL (by omega)) nin0)
          have Y461_aO := Y444_aO.keep K447 (ninS (own_neL (by omega)) nin0)
          have Y462_aW := Y445_aW.keep K447 (ninS (own_neL (by omega)) nin0)
          have Y463_en := Y446_en.keep K447 (ninS (own_neL (by omega)) nin0)
          show OwnDone p e below _ (T447.setTop (mkF m 116 #[.val (.ref r), .val (.int k1), .val (.int x2), .val (.ref st), .val (.ref nu), .val (.ref en), .val (.ref oa), .val (.int (k1 &&& (3 : Int32))), .unset, .unset] []))
          refine OwnDone.go (A := (T447.setTop (mkF m 117 #[.val (.ref r), .val (.int k1), .val (.int x2), .val (.ref st), .val (.ref nu), .val (.ref en), .val (.ref oa), .val (.int (k1 &&& (3 : Int32))), .unset, .unset] [(.ref r)]))) (fun tQ kQ => ?_) ?_
          · refine XS.aloadN P447.here hx rfl (hb hby dst_116) rfl rfl ?_
            show Steps p.tables e below (T447.setTop (mkF m 117 #[.val (.ref r), .val (.int k1), .val (.int x2), .val (.ref st), .val (.ref nu), .val (.ref en), .val (.ref oa), .val (.int (k1 &&& (3 : Int32))), .unset, .unset] [(.ref r)])) _
            exact kQ
          show OwnDone p e below _ (T447.setTop (mkF m 117 #[.val (.ref r), .val (.int k1), .val (.int x2), .val (.ref st), .val (.ref nu), .val (.ref en), .val (.ref oa), .val (.int (k1 &&& (3 : Int32))), .unset, .unset] [(.ref r)]))
          refine own_callV (y := (⟨"com/example/tidx/tidx/index/Run", "first", "()[Ljava/lang/Object;"⟩ : MethodName)) (z := (⟨"com/example/tidx/tidx/index/Run", "first", "()[Ljava/lang/Object;"⟩ : MethodName)) (CC := "com/example/tidx/tidx/index/Run") C P447 O456_r.1 (hw _ (List.mem_of_getElem? (i := 34) rfl)) (hw _ (List.mem_of_getElem? (i := 35) rfl)) (hw _ (List.mem_of_getElem? (i := 37) rfl)) (hw _ (List.mem_of_getElem? (i := 37) rfl)) (hw _ (List.mem_of_getElem? (i := 36) rfl)) (hw _ (List.mem_of_getElem? (i := 8) rfl)) (hw _ (List.mem_of_getElem? (i := 38) rfl)) (by decide) (rmfa l Z a0 hw r aR aV aF aT aO aW vd (0 : Int32) (0 : Int32) h447 P447.old O456_r) (as := []) (rest := []) pd_4 rfl rfl (wd := 0) rfl rfl dst_117 all0 (by decide) (by decide) (by decide) (by decide) (fun T464 h464 v464 P464 K464 hQ464 => ?_)
          obtain ⟨rfl, rfl⟩ := hQ464
          show OwnDone p e below _ (T464.setTop (mkF m 120 #[.val (.ref r), .val (.int k1), .val (.int x2), .val (.ref st), .val (.ref nu), .val (.ref en), .val (.ref oa), .val (.int (k1 &&& (3 : Int32))), .unset, .unset] [.null]))
          refine OwnDone.go (A := (T464.setTop (mkF m 123 #[.val (.ref r), .val (.int k1), .val (.int x2), .val (.ref st), .val (.ref nu), .val (.ref en), .val (.ref oa), .val (.int (k1 &&& (3 : Int32))), .unset, .unset] [.null, .null]))) (fun tQ kQ => ?_) ?_
          · refine XS.aloadN P464.here hx rfl (hb hby dst_120) rfl rfl ?_
            show Steps p.tables e below (T464.setTop (mkF m 121 #[.val (.ref r), .val (.int k1), .val (.int x2), .val (.ref st), .val (.ref nu), .val (.ref en), .val (.ref oa), .val (.int (k1 &&& (3 : Int32))), .unset, .unset] [(.ref st), .null])) _
            refine XS.iconst P464.here hx rfl (hb hby dst_121) ?_
            show Steps p.tables e below (T464.setTop (mkF m 122 #[.val (.ref r), .val (.int k1), .val (.int x2), .val (.ref st), .val (.ref nu), .val (.ref en), .val (.ref oa), .val (.int (k1 &&& (3 : Int32))), .unset, .unset] [(.int (0 : Int32)), (.ref st), .null])) _
            refine own_aaload C P464 Y447 rfl (by decide) rfl dst_122 ?_
            show Steps p.tables e below (T464.setTop (mkF m 123 #[.val (.ref r), .val (.int k1), .val (.int x2), .val (.ref st), .val (.ref nu), .val (.ref en), .val (.ref oa), .val (.int (k1 &&& (3 : Int32))), .unset, .unset] [.null, .null])) _
            exact kQ
          show OwnDone p e below _ (T464.setTop (mkF m 123 #[.val (.ref r), .val (.int k1), .val (.int x2), .val (.ref st), .val (.ref nu), .val (.ref en), .val (.ref oa), .val (.int (k1 &&& (3 : Int32))), .unset, .unset] [.null, .null]))
          refine OwnDone.go (A := (T464.setTop (mkF m 126 #[.val (.ref r), .val (.int k1), .val (.int x2), .val (.ref st), .val (.ref nu), .val (.ref en), .val (.ref oa), .val (.int (k1 &&& (3 : Int32))), .unset, .unset] []))) (fun tQ kQ => XT.acmpNo P464.here hx rfl (hb hby dst_123) rfl rfl rfl (XT.aa_ne_f rfl) kQ) ?_
          show OwnDone p e below _ (T464.setTop (mkF m 126 #[.val (.ref r), .val (.int k1), .val (.int x2), .val (.ref st), .val (.ref nu), .val (.ref en), .val (.ref oa), .val (.int (k1 &&& (3 : Int32))), .unset, .unset] []))
          refine OwnDone.go (A := (T464.setTop (mkF m 131 #[.val (.ref r), .val (.int k1), .val (.int x2), .val (.ref st), .val (.ref nu), .val (.ref en), .val (.ref oa), .val (.int (k1 &&& (3 : Int32))), .unset, .unset] [(.int (1 : Int32))]))) (fun tQ kQ => ?_) ?_
          · refine XS.iconst P464.here hx rfl (hb hby dst_126) ?_
            show Steps p.tables e below (T464.setTop (mkF m 127 #[.val (.ref r), .val (.int k1), .val (.int x2), .val (.ref st), .val (.ref nu), .val (.ref en), .val (.ref oa), .val (.int (k1 &&& (3 : Int32))), .unset, .unset] [(.int (1 : Int32))])) _
            refine XS.goto P464.here hx rfl (pc0 := 127) (pc' := 131) rfl (hb hby dst_127) (by decide) (by decide) ?_
            show Steps p.tables e below (T464.setTop (mkF m 131 #[.val (.ref r), .val (.int k1), .val (.int x2), .val (.ref st), .val (.ref nu), .val (.ref en), .val (.ref oa), .val (.int (k1 &&& (3 : Int32))), .unset, .unset] [(.int (1 : Int32))])) _
            exact kQ
          show OwnDone p e below _ (T464.setTop (mkF m 131 #[.val (.ref r), .val (.int k1), .val (.int x2), .val (.ref st), .val (.ref nu), .val (.ref en), .val (.ref oa), .val (.int (k1 &&& (3 : Int32))), .unset, .unset] [(.int (1 : Int32))]))
          refine own_retN C P464 (by simp) (z' := (1 : Int32)) (by decide) dst_131 (by decide) (by decide) ?_
          refine ⟨rfl, vd, (0 : Int32), (0 : Int32), (0 : Int32), rr, vv, ff, tt, oo, ww414, .null, .null, O456_r, Y457_aR, Y458_aV, Y459_aF, Y460_aT, Y461_aO, Y462_aW, Y447, Y463_en, ⟨lR, lV, lF, lT, lO, lW414⟩, ?_, ?_, ?_, ?_⟩
          · exact ⟨by decide, by have := bs; have e0 : (0 : Int32).toInt = 0 := (by decide); omega⟩
          · exact ⟨by decide, by have := bs; have e0 : (0 : Int32).toInt = 0 := (by decide); omega⟩
          · exact Or.inl ⟨rfl, rfl⟩
          · exact Or.inl ⟨rfl, rfl⟩
        · subst how
          show OwnDone p e below _ (T.setTop (mkF m 104 #[.val (.ref r), .val (.int k1), .val (.int x2), .val (.ref st), .val (.ref nu), .val (.ref en), .val (.ref oa), .val (.int (k1 &&& (3 : Int32))), .unset, .unset] []))
          refine OwnDone.go (A := (T.setTop (mkF m 105 #[.val (.ref r), .val (.int k1), .val (.int x2), .val (.ref st), .val (.ref nu), .val (.ref en), .val (.ref oa), .val (.int (k1 &&& (3 : Int32))), .unset, .unset] [(.ref r)]))) (fun tQ kQ => ?_) ?_
          · refine XS.aloadN P.here hx rfl (hb hby dst_104) rfl rfl ?_
            show Steps p.tables e below (T.setTop (mkF m 105 #[.val (.ref r), .val (.int k1), .val (.int x2), .val (.ref st), .val (.ref nu), .val (.ref en), .val (.ref oa), .val (.int (k1 &&& (3 : Int32))), .unset, .unset] [(.ref r)])) _
            exact kQ
          show OwnDone p e below _ (T.setTop (mkF m 105 #[.val (.ref r), .val (.int k1), .val (.int x2), .val (.ref st), .val (.ref nu), .val (.ref en), .val (.ref oa), .val (.int (k1 &&& (3 : Int32))), .unset, .unset] [(.ref r)]))
          refine own_callV (y := (⟨"com/example/tidx/tidx/index/Run", "clear", "()V"⟩ : MethodName)) (z := (⟨"com/example/tidx/tidx/index/Run", "clear", "()V"⟩ : MethodName)) (CC := "com/example/tidx/tidx/index/Run") C P Ob.1 (hw _ (List.mem_of_getElem? (i := 61) rfl)) (hw _ (List.mem_of_getElem? (i := 62) rfl)) (hw _ (List.mem_of_getElem? (i := 64) rfl)) (hw _ (List.mem_of_getElem? (i := 64) rfl)) (hw _ (List.mem_of_getElem? (i := 63) rfl)) (hw _ (List.mem_of_getElem? (i := 8) rfl)) (hw _ (List.mem_of_getElem? (i := 65) rfl)) (by decide) (rmcl2 l Z a0 hw r aR aV aF aT aO aW kW vd sl sz ww h0 P.old g_r g_aW Ob YaW lW (by omega)) (as := []) (rest := []) pd_6 rfl rfl (wd := 0) rfl rfl dst_105 (allS (Or.inl (List.mem_of_getElem? (i := 1) rfl)) (allS (Or.inl (List.mem_of_getElem? (i := 7) rfl)) all0)) (by decide) (by decide) (by decide) (by decide) (fun T465 h465 v465 P465 K465 hQ465 => ?_)
          obtain ⟨rfl, Ob465, ww465, YaW465, lW465⟩ := hQ465
          have I466_nu := own_insK In K465
          have I467_en := own_insK Ie K465
          have I468_oa := own_insK Ia K465
          have I469_oa := own_insK Ib K465
          have I470_e0 := own_insK Ie0 K465
          have I471_e1 := own_insK Ie1 K465
          have I472_e2 := own_insK Ie2 K465
          have I473_e3 := own_insK Ie3 K465
          have Y474_aR := YaR.keep K465 (ninS (own_neL (by omega)) (ninS (own_neL (by omega)) nin0))
          have Y475_aV := YaV.keep K465 (ninS (own_neL (by omega)) (ninS (own_neL (by omega)) nin0))
          have Y476_aF := YaF.keep K465 (ninS (own_neL (by omega)) (ninS (own_neL (by omega)) nin0))
          have Y477_aT := YaT.keep K465 (ninS (own_neL (by omega)) (ninS (own_neL (by omega)) nin0))
          have Y478_aO := YaO.keep K465 (ninS (own_neL (by omega)) (ninS (own_neL (by omega)) nin0))
          have Y479_st := Yst.keep K465 (ninS (own_neL (by omega)) (ninS (own_neL (by omega)) nin0))
          have Y480_en := Yen.keep K465 (ninS (own_neL (by omega)) (ninS (own_neL (by omega)) nin0))
          show OwnDone p e below _ (T465.setTop (mkF m 108 #[.val (.ref r), .val (.int k1), .val (.int x2), .val (.ref st), .val (.ref nu), .val (.ref en), .val (.ref oa), .val (.int (k1 &&& (3 : Int32))), .unset, .unset] []))
          refine OwnDone.go (A := (T465.setTop (mkF m 111 #[.val (.ref r), .val (.int k1), .val (.int x2), .val (.ref st), .val (.ref nu), .val (.ref en), .val (.ref oa), .val (.int (k1 &&& (3 : Int32))), .unset, .unset] [.null, (.int (0 : Int32)), (.ref st)]))) (fun tQ kQ => ?_) ?_
          · refine XS.aloadN P465.here hx rfl (hb hby dst_108) rfl rfl ?_
            show Steps p.tables e below (T465.setTop (mkF m 109 #[.val (.ref r), .val (.int k1), .val (.int x2), .val (.ref st), .val (.ref nu), .val (.ref en), .val (.ref oa), .val (.int (k1 &&& (3 : Int32))), .unset, .unset] [(.ref st)])) _
            refine XS.iconst P465.here hx rfl (hb hby dst_109) ?_
            show Steps p.tables e below (T465.setTop (mkF m 110 #[.val (.ref r), .val (.int k1), .val (.int x2), .val (.ref st), .val (.ref nu), .val (.ref en), .val (.ref oa), .val (.int (k1 &&& (3 : Int32))), .unset, .unset] [(.int (0 : Int32)), (.ref st)])) _
            refine XS.aconstNull P465.here hx rfl (hb hby dst_110) ?_
            show Steps p.tables e below (T465.setTop (mkF m 111 #[.val (.ref r), .val (.int k1), .val (.int x2), .val (.ref st), .val (.ref nu), .val (.ref en), .val (.ref oa), .val (.int (k1 &&& (3 : Int32))), .unset, .unset] [.null, (.int (0 : Int32)), (.ref st)])) _
            exact kQ
          show OwnDone p e below _ (T465.setTop (mkF m 111 #[.val (.ref r), .val (.int k1), .val (.int x2), .val (.ref st), .val (.ref nu), .val (.ref en), .val (.ref oa), .val (.int (k1 &&& (3 : Int32))), .unset, .unset] [.null, (.int (0 : Int32)), (.ref st)]))
          refine own_aastore C P465 Y479_st rfl (by decide) (show ((0 : Int32) : Int32).toNatClampNeg < 2 from by decide) (Or.inl rfl) (Or.inl (List.mem_of_getElem? (i := 0) rfl)) dst_111 (vs' := [.null, s1]) rfl (fun T481 h481 P481 K481 Y481 => ?_)
          have I482_nu := own_insK I466_nu K481
          have I483_en := own_insK I467_en K481
          have I484_oa := own_insK I468_oa K481
          have I485_oa := own_insK I469_oa K481
          have I486_e0 := own_insK I470_e0 K481
          have I487_e1 := own_insK I471_e1 K481
          have I488_e2 := own_insK I472_e2 K481
          have I489_e3 := own_insK I473_e3 K481
          have O490_r := Ob465.keep K481 (ninS (own_neL (by omega)) nin0)
          have Y491_aR := Y474_aR.keep K481 (ninS (own_neL (by omega)) nin0)
          have Y492_aV := Y475_aV.keep K481 (ninS (own_neL (by omega)) nin0)
          have Y493_aF := Y476_aF.keep K481 (ninS (own_neL (by omega)) nin0)
          have Y494_aT := Y477_aT.keep K481 (ninS (own_neL (by omega)) nin0)
          have Y495_aO := Y478_aO.keep K481 (ninS (own_neL (by omega)) nin0)
          have Y496_aW := YaW465.keep K481 (ninS (own_neL (by omega)) nin0)
          have Y497_en := Y480_en.keep K481 (ninS (own_neL (by omega)) nin0)
          show OwnDone p e below _ (T481.setTop (mkF m 112 #[.val (.ref r), .val (.int k1), .val (.int x2), .val (.ref st), .val (.ref nu), .val (.ref en), .val (.ref oa), .val (.int (k1 &&& (3 : Int32))), .unset, .unset] []))
          refine OwnDone.go (A := (T481.setTop (mkF m 115 #[.val (.ref r), .val (.int k1), .val (.int x2), .val (.ref st), .val (.ref nu), .val (.ref en), .val (.ref oa), .val (.int (k1 &&& (3 : Int32))), .unset, .unset] [.null, (.int (1 : Int32)), (.ref st)]))) (fun tQ kQ => ?_) ?_
          · refine XS.aloadN P481.here hx rfl (hb hby dst_112) rfl rfl ?_
            show Steps p.tables e below (T481.setTop (mkF m 113 #[.val (.ref r), .val (.int k1), .val (.int x2), .val (.ref st), .val (.ref nu), .val (.ref en), .val (.ref oa), .val (.int (k1 &&& (3 : Int32))), .unset, .unset] [(.ref st)])) _
            refine XS.iconst P481.here hx rfl (hb hby dst_113) ?_
            show Steps p.tables e below (T481.setTop (mkF m 114 #[.val (.ref r), .val (.int k1), .val (.int x2), .val (.ref st), .val (.ref nu), .val (.ref en), .val (.ref oa), .val (.int (k1 &&& (3 : Int32))), .unset, .unset] [(.int (1 : Int32)), (.ref st)])) _
            refine XS.aconstNull P481.here hx rfl (hb hby dst_114) ?_
            show Steps p.tables e below (T481.setTop (mkF m 115 #[.val (.ref r), .val (.int k1), .val (.int x2), .val (.ref st), .val (.ref nu), .val (.ref en), .val (.ref oa), .val (.int (k1 &&& (3 : Int32))), .unset, .unset] [.null, (.int (1 : Int32)), (.ref st)])) _
            exact kQ
          show OwnDone p e below _ (T481.setTop (mkF m 115 #[.val (.ref r), .val (.int k1), .val (.int x2), .val (.ref st), .val (.ref nu), .val (.ref en), .val (.ref oa), .val (.int (k1 &&& (3 : Int32))), .unset, .unset] [.null, (.int (1 : Int32)), (.ref st)]))
          refine own_aastore C P481 Y481 rfl (by decide) (show ((1 : Int32) : Int32).toNatClampNeg < 2 from by decide) (Or.inl rfl) (Or.inl (List.mem_of_getElem? (i := 0) rfl)) dst_115 (vs' := [.null, .null]) rfl (fun T498 h498 P498 K498 Y498 => ?_)
          have I499_nu := own_insK I482_nu K498
          have I500_en := own_insK I483_en K498
          have I501_oa := own_insK I484_oa K498
          have I502_oa := own_insK I485_oa K498
          have I503_e0 := own_insK I486_e0 K498
          have I504_e1 := own_insK I487_e1 K498
          have I505_e2 := own_insK I488_e2 K498
          have I506_e3 := own_insK I489_e3 K498
          have O507_r := O490_r.keep K498 (ninS (own_neL (by omega)) nin0)
          have Y508_aR := Y491_aR.keep K498 (ninS (own_neL (by omega)) nin0)
          have Y509_aV := Y492_aV.keep K498 (ninS (own_neL (by omega)) nin0)
          have Y510_aF := Y493_aF.keep K498 (ninS (own_neL (by omega)) nin0)
          have Y511_aT := Y494_aT.keep K498 (ninS (own_neL (by omega)) nin0)
          have Y512_aO := Y495_aO.keep K498 (ninS (own_neL (by omega)) nin0)
          have Y513_aW := Y496_aW.keep K498 (ninS (own_neL (by omega)) nin0)
          have Y514_en := Y497_en.keep K498 (ninS (own_neL (by omega)) nin0)
          show OwnDone p e below _ (T498.setTop (mkF m 116 #[.val (.ref r), .val (.int k1), .val (.int x2), .val (.ref st), .val (.ref nu), .val (.ref en), .val (.ref oa), .val (.int (k1 &&& (3 : Int32))), .unset, .unset] []))
          refine OwnDone.go (A := (T498.setTop (mkF m 117 #[.val (.ref r), .val (.int k1), .val (.int x2), .val (.ref st), .val (.ref nu), .val (.ref en), .val (.ref oa), .val (.int (k1 &&& (3 : Int32))), .unset, .unset] [(.ref r)]))) (fun tQ kQ => ?_) ?_
          · refine XS.aloadN P498.here hx rfl (hb hby dst_116) rfl rfl ?_
            show Steps p.tables e below (T498.setTop (mkF m 117 #[.val (.ref r), .val (.int k1), .val (.int x2), .val (.ref st), .val (.ref nu), .val (.ref en), .val (.ref oa), .val (.int (k1 &&& (3 : Int32))), .unset, .unset] [(.ref r)])) _
            exact kQ
          show OwnDone p e below _ (T498.setTop (mkF m 117 #[.val (.ref r), .val (.int k1), .val (.int x2), .val (.ref st), .val (.ref nu), .val (.ref en), .val (.ref oa), .val (.int (k1 &&& (3 : Int32))), .unset, .unset] [(.ref r)]))
          refine own_callV (y := (⟨"com/example/tidx/tidx/index/Run", "first", "()[Ljava/lang/Object;"⟩ : MethodName)) (z := (⟨"com/example/tidx/tidx/index/Run", "first", "()[Ljava/lang/Object;"⟩ : MethodName)) (CC := "com/example/tidx/tidx/index/Run") C P498 O507_r.1 (hw _ (List.mem_of_getElem? (i := 34) rfl)) (hw _ (List.mem_of_getElem? (i := 35) rfl)) (hw _ (List.mem_of_getElem? (i := 37) rfl)) (hw _ (List.mem_of_getElem? (i := 37) rfl)) (hw _ (List.mem_of_getElem? (i := 36) rfl)) (hw _ (List.mem_of_getElem? (i := 8) rfl)) (hw _ (List.mem_of_getElem? (i := 38) rfl)) (by decide) (rmfa l Z a0 hw r aR aV aF aT aO aW vd (0 : Int32) (0 : Int32) h498 P498.old O507_r) (as := []) (rest := []) pd_4 rfl rfl (wd := 0) rfl rfl dst_117 all0 (by decide) (by decide) (by decide) (by decide) (fun T515 h515 v515 P515 K515 hQ515 => ?_)
          obtain ⟨rfl, rfl⟩ := hQ515
          show OwnDone p e below _ (T515.setTop (mkF m 120 #[.val (.ref r), .val (.int k1), .val (.int x2), .val (.ref st), .val (.ref nu), .val (.ref en), .val (.ref oa), .val (.int (k1 &&& (3 : Int32))), .unset, .unset] [.null]))
          refine OwnDone.go (A := (T515.setTop (mkF m 123 #[.val (.ref r), .val (.int k1), .val (.int x2), .val (.ref st), .val (.ref nu), .val (.ref en), .val (.ref oa), .val (.int (k1 &&& (3 : Int32))), .unset, .unset] [.null, .null]))) (fun tQ kQ => ?_) ?_
          · refine XS.aloadN P515.here hx rfl (hb hby dst_120) rfl rfl ?_
            show Steps p.tables e below (T515.setTop (mkF m 121 #[.val (.ref r), .val (.int k1), .val (.int x2), .val (.ref st), .val (.ref nu), .val (.ref en), .val (.ref oa), .val (.int (k1 &&& (3 : Int32))), .unset, .unset] [(.ref st), .null])) _
            refine XS.iconst P515.here hx rfl (hb hby dst_121) ?_
            show Steps p.tables e below (T515.setTop (mkF m 122 #[.val (.ref r), .val (.int k1), .val (.int x2), .val (.ref st), .val (.ref nu), .val (.ref en), .val (.ref oa), .val (.int (k1 &&& (3 : Int32))), .unset, .unset] [(.int (0 : Int32)), (.ref st), .null])) _
            refine own_aaload C P515 Y498 rfl (by decide) rfl dst_122 ?_
            show Steps p.tables e below (T515.setTop (mkF m 123 #[.val (.ref r), .val (.int k1), .val (.int x2), .val (.ref st), .val (.ref nu), .val (.ref en), .val (.ref oa), .val (.int (k1 &&& (3 : Int32))), .unset, .unset] [.null, .null])) _
            exact kQ
          show OwnDone p e below _ (T515.setTop (mkF m 123 #[.val (.ref r), .val (.int k1), .val (.int x2), .val (.ref st), .val (.ref nu), .val (.ref en), .val (.ref oa), .val (.int (k1 &&& (3 : Int32))), .unset, .unset] [.null, .null]))
          refine OwnDone.go (A := (T515.setTop (mkF m 126 #[.val (.ref r), .val (.int k1), .val (.int x2), .val (.ref st), .val (.ref nu), .val (.ref en), .val (.ref oa), .val (.int (k1 &&& (3 : Int32))), .unset, .unset] []))) (fun tQ kQ => XT.acmpNo P515.here hx rfl (hb hby dst_123) rfl rfl rfl (XT.aa_ne_f rfl) kQ) ?_
          show OwnDone p e below _ (T515.setTop (mkF m 126 #[.val (.ref r), .val (.int k1), .val (.int x2), .val (.ref st), .val (.ref nu), .val (.ref en), .val (.ref oa), .val (.int (k1 &&& (3 : Int32))), .unset, .unset] []))
          refine OwnDone.go (A := (T515.setTop (mkF m 131 #[.val (.ref r), .val (.int k1), .val (.int x2), .val (.ref st), .val (.ref nu), .val (.ref en), .val (.ref oa), .val (.int (k1 &&& (3 : Int32))), .unset, .unset] [(.int (1 : Int32))]))) (fun tQ kQ => ?_) ?_
          · refine XS.iconst P515.here hx rfl (hb hby dst_126) ?_
            show Steps p.tables e below (T515.setTop (mkF m 127 #[.val (.ref r), .val (.int k1), .val (.int x2), .val (.ref st), .val (.ref nu), .val (.ref en), .val (.ref oa), .val (.int (k1 &&& (3 : Int32))), .unset, .unset] [(.int (1 : Int32))])) _
            refine XS.goto P515.here hx rfl (pc0 := 127) (pc' := 131) rfl (hb hby dst_127) (by decide) (by decide) ?_
            show Steps p.tables e below (T515.setTop (mkF m 131 #[.val (.ref r), .val (.int k1), .val (.int x2), .val (.ref st), .val (.ref nu), .val (.ref en), .val (.ref oa), .val (.int (k1 &&& (3 : Int32))), .unset, .unset] [(.int (1 : Int32))])) _
            exact kQ
          show OwnDone p e below _ (T515.setTop (mkF m 131 #[.val (.ref r), .val (.int k1), .val (.int x2), .val (.ref st), .val (.ref nu), .val (.ref en), .val (.ref oa), .val (.int (k1 &&& (3 : Int32))), .unset, .unset] [(.int (1 : Int32))]))
          refine own_retN C P515 (by simp) (z' := (1 : Int32)) (by decide) dst_131 (by decide) (by decide) ?_
          refine ⟨rfl, vd, (0 : Int32), (0 : Int32), (0 : Int32), rr, vv, ff, tt, oo, ww465, .null, .null, O507_r, Y508_aR, Y509_aV, Y510_aF, Y511_aT, Y512_aO, Y513_aW, Y498, Y514_en, ⟨lR, lV, lF, lT, lO, lW465⟩, ?_, ?_, ?_, ?_⟩
          · exact ⟨by decide, by have := bs; have e0 : (0 : Int32).toInt = 0 := (by decide); omega⟩
          · exact ⟨by decide, by have := bs; have e0 : (0 : Int32).toInt = 0 := (by decide); omega⟩
          · exact Or.inl ⟨rfl, rfl⟩
          · exact Or.inl ⟨rfl, rfl⟩
theorem pn0 : plainName "com/example/tidx/tidx/index/RunFirstPinLaw" = true := by first | (simp [plainName, overriddenIn]; done) | decide +kernel
theorem ef0 (m : MethodId) (p1 : Int32) (p2 : Int32) (p3 : Int32) (p4 : Int32) (p5 : Int32)  : entryFrame m #[(.int p1), (.int p2), (.int p3), (.int p4), (.int p5)] maxLocals = mkF m 0 #[.val (.int p1), .val (.int p2), .val (.int p3), .val (.int p4), .val (.int p5), .unset, .unset, .unset, .unset, .unset, .unset, .unset, .unset, .unset, .unset, .unset, .unset] [] := by first | (simp [entryFrame, mkF, argsToLocals, Value.category, maxLocals]; done) | rfl
set_option maxRecDepth 65536 in
set_option maxHeartbeats 40000000 in
theorem rm0 (l : Launch) (Z : State) (a0 : Array Value) (hw : ∀ d ∈ tables_1, d.before a0 Z = true) (p1 : Int32) (p2 : Int32) (p3 : Int32) (p4 : Int32) (p5 : Int32)  (h0 : Heap) (hE : Ext Z.heap h0)   :
    OwnMeets l x code maxLocals ret room_1 Z [] #[(.int p1), (.int p2), (.int p3), (.int p4), (.int p5)] h0 (fun v h => v = some (.int 1)) := by
  refine OwnMeets.of (plainFor_of_name pn0) hE all0 ?_
  intro p e s m below meth c T C P
  have hx := C.1
  have hby := C.2.2.2.2.1
  rw [show entryFrame m #[(.int p1), (.int p2), (.int p3), (.int p4), (.int p5)] maxLocals = _ from ef0 m p1 p2 p3 p4 p5]
  show OwnDone p e below _ (T.setTop (mkF m 0 #[.val (.int p1), .val (.int p2), .val (.int p3), .val (.int p4), .val (.int p5), .unset, .unset, .unset, .unset, .unset, .unset, .unset, .unset, .unset, .unset, .unset, .unset] []))
  obtain ⟨vd, e_vd, b_vd⟩ : ∃ z : Int32, z = (if p1 &&& 1 = 0 then (0 : Int32) else 1) ∧ (z = 0 ∨ z = 1) := ⟨_, rfl, by split <;> simp⟩
  refine OwnDone.go (A := (T.setTop (mkF m 1 #[.val (.int p1), .val (.int p2), .val (.int p3), .val (.int p4), .val (.int p5), .unset, .unset, .unset, .unset, .unset, .unset, .unset, .unset, .unset, .unset, .unset, .unset] [(.int (1 : Int32))]))) (fun tQ kQ => ?_) ?_
  · refine XS.iconst P.here hx rfl (hb hby at_0) ?_
    show Steps p.tables e below (T.setTop (mkF m 1 #[.val (.int p1), .val (.int p2), .val (.int p3), .val (.int p4), .val (.int p5), .unset, .unset, .unset, .unset, .unset, .unset, .unset, .unset, .unset, .unset, .unset, .unset] [(.int (1 : Int32))])) _
    exact kQ
  show OwnDone p e below _ (T.setTop (mkF m 1 #[.val (.int p1), .val (.int p2), .val (.int p3), .val (.int p4), .val (.int p5), .unset, .unset, .unset, .unset, .unset, .unset, .unset, .unset, .unset, .unset, .unset, .unset] [(.int (1 : Int32))]))
  refine own_newR (CC := "java/lang/Object") (n := (1 : Int32)) (cap := 1) (vs := [.null]) C P (hw _ (List.mem_of_getElem? (i := 0) rfl)) (hw _ (List.mem_of_getElem? (i := 1) rfl)) at_1 (by decide) (by decide) (by decide) (by decide +kernel) rfl (by decide) (by decide) (fun T1 h1 a1 k1 ga1 la1 P1 K1 Y1 N1 V1 => ?_)
  have ge_a1 : h0.size ≤ a1 := by rw [ga1]; exact P.keep.1
  show OwnDone p e below _ (T1.setTop (mkF m 4 #[.val (.int p1), .val (.int p2), .val (.int p3), .val (.int p4), .val (.int p5), .unset, .unset, .unset, .unset, .unset, .unset, .unset, .unset, .unset, .unset, .unset, .unset] [(.ref a1)]))
  refine OwnDone.go (A := (T1.setTop (mkF m 7 #[.val (.int p1), .val (.int p2), .val (.int p3), .val (.int p4), .val (.int p5), .val (.ref a1), .unset, .unset, .unset, .unset, .unset, .unset, .unset, .unset, .unset, .unset, .unset] [(.int (1 : Int32))]))) (fun tQ kQ => ?_) ?_
  · refine XS.astore P1.here hx rfl (hb hby at_4) rfl rfl (l' := #[.val (.int p1), .val (.int p2), .val (.int p3), .val (.int p4), .val (.int p5), .val (.ref a1), .unset, .unset, .unset, .unset, .unset, .unset, .unset, .unset, .unset, .unset, .unset]) rfl ?_
    show Steps p.tables e below (T1.setTop (mkF m 6 #[.val (.int p1), .val (.int p2), .val (.int p3), .val (.int p4), .val (.int p5), .val (.ref a1), .unset, .unset, .unset, .unset, .unset, .unset, .unset, .unset, .unset, .unset, .unset] [])) _
    refine XS.iconst P1.here hx rfl (hb hby at_6) ?_
    show Steps p.tables e below (T1.setTop (mkF m 7 #[.val (.int p1), .val (.int p2), .val (.int p3), .val (.int p4), .val (.int p5), .val (.ref a1), .unset, .unset, .unset, .unset, .unset, .unset, .unset, .unset, .unset, .unset, .unset] [(.int (1 : Int32))])) _
    exact kQ
  show OwnDone p e below _ (T1.setTop (mkF m 7 #[.val (.int p1), .val (.int p2), .val (.int p3), .val (.int p4), .val (.int p5), .val (.ref a1), .unset, .unset, .unset, .unset, .unset, .unset, .unset, .unset, .unset, .unset, .unset] [(.int (1 : Int32))]))
  refine own_newR (CC := "java/lang/Object") (n := (1 : Int32)) (cap := 1) (vs := [.null]) C P1 (hw _ (List.mem_of_getElem? (i := 0) rfl)) (hw _ (List.mem_of_getElem? (i := 1) rfl)) at_7 (by decide) (by decide) (by decide) (by decide +kernel) rfl (by decide) (by decide) (fun T2 h2 a2 k2 ga2 la2 P2 K2 Y2 N2 V2 => ?_)
  have ge_a2 : h0.size ≤ a2 := by rw [ga2]; exact P1.keep.1
  have lt_a1_a2 : @LT.lt Nat _ a1 a2 := by rw [ga2]; exact Y1.lt
  have Y3_a1 := Y1.keep K2 nin0
  show OwnDone p e below _ (T2.setTop (mkF m 10 #[.val (.int p1), .val (.int p2), .val (.int p3), .val (.int p4), .val (.int p5), .val (.ref a1), .unset, .unset, .unset, .unset, .unset, .unset, .unset, .unset, .unset, .unset, .unset] [(.ref a2)]))
  refine OwnDone.go (A := (T2.setTop (mkF m 13 #[.val (.int p1), .val (.int p2), .val (.int p3), .val (.int p4), .val (.int p5), .val (.ref a1), .val (.ref a2), .unset, .unset, .unset, .unset, .unset, .unset, .unset, .unset, .unset, .unset] [(.int (1 : Int32))]))) (fun tQ kQ => ?_) ?_
  · refine XS.astore P2.here hx rfl (hb hby at_10) rfl rfl (l' := #[.val (.int p1), .val (.int p2), .val (.int p3), .val (.int p4), .val (.int p5), .val (.ref a1), .val (.ref a2), .unset, .unset, .unset, .unset, .unset, .unset, .unset, .unset, .unset, .unset]) rfl ?_
    show Steps p.tables e below (T2.setTop (mkF m 12 #[.val (.int p1), .val (.int p2), .val (.int p3), .val (.int p4), .val (.int p5), .val (.ref a1), .val (.ref a2), .unset, .unset, .unset, .unset, .unset, .unset, .unset, .unset, .unset, .unset] [])) _
    refine XS.iconst P2.here hx rfl (hb hby at_12) ?_
    show Steps p.tables e below (T2.setTop (mkF m 13 #[.val (.int p1), .val (.int p2), .val (.int p3), .val (.int p4), .val (.int p5), .val (.ref a1), .val (.ref a2), .unset, .unset, .unset, .unset, .unset, .unset, .unset, .unset, .unset, .unset] [(.int (1 : Int32))])) _
    exact kQ
  show OwnDone p e below _ (T2.setTop (mkF m 13 #[.val (.int p1), .val (.int p2), .val (.int p3), .val (.int p4), .val (.int p5), .val (.ref a1), .val (.ref a2), .unset, .unset, .unset, .unset, .unset, .unset, .unset, .unset, .unset, .unset] [(.int (1 : Int32))]))
  refine own_newR (CC := "java/lang/Object") (n := (1 : Int32)) (cap := 1) (vs := [.null]) C P2 (hw _ (List.mem_of_getElem? (i := 0) rfl)) (hw _ (List.mem_of_getElem? (i := 1) rfl)) at_13 (by decide) (by decide) (by decide) (by decide +kernel) rfl (by decide) (by decide) (fun T4 h4 a4 k4 ga4 la4 P4 K4 Y4 N4 V4 => ?_)
  have ge_a4 : h0.size ≤ a4 := by rw [ga4]; exact P2.keep.1
  have lt_a2_a4 : @LT.lt Nat _ a2 a4 := by rw [ga4]; exact Y2.lt
  have Y5_a1 := Y3_a1.keep K4 nin0
  have Y6_a2 := Y2.keep K4 nin0
  show OwnDone p e below _ (T4.setTop (mkF m 16 #[.val (.int p1), .val (.int p2), .val (.int p3), .val (.int p4), .val (.int p5), .val (.ref a1), .val (.ref a2), .unset, .unset, .unset, .unset, .unset, .unset, .unset, .unset, .unset, .unset] [(.ref a4)]))
  refine OwnDone.go (A := (T4.setTop (mkF m 19 #[.val (.int p1), .val (.int p2), .val (.int p3), .val (.int p4), .val (.int p5), .val (.ref a1), .val (.ref a2), .val (.ref a4), .unset, .unset, .unset, .unset, .unset, .unset, .unset, .unset, .unset] [(.int (1 : Int32))]))) (fun tQ kQ => ?_) ?_
  · refine XS.astore P4.here hx rfl (hb hby at_16) rfl rfl (l' := #[.val (.int p1), .val (.int p2), .val (.int p3), .val (.int p4), .val (.int p5), .val (.ref a1), .val (.ref a2), .val (.ref a4), .unset, .unset, .unset, .unset, .unset, .unset, .unset, .unset, .unset]) rfl ?_
    show Steps p.tables e below (T4.setTop (mkF m 18 #[.val (.int p1), .val (.int p2), .val (.int p3), .val (.int p4), .val (.int p5), .val (.ref a1), .val (.ref a2), .val (.ref a4), .unset, .unset, .unset, .unset, .unset, .unset, .unset, .unset, .unset] [])) _
    refine XS.iconst P4.here hx rfl (hb hby at_18) ?_
    show Steps p.tables e below (T4.setTop (mkF m 19 #[.val (.int p1), .val (.int p2), .val (.int p3), .val (.int p4), .val (.int p5), .val (.ref a1), .val (.ref a2), .val (.ref a4), .unset, .unset, .unset, .unset, .unset, .unset, .unset, .unset, .unset] [(.int (1 : Int32))])) _
    exact kQ
  show OwnDone p e below _ (T4.setTop (mkF m 19 #[.val (.int p1), .val (.int p2), .val (.int p3), .val (.int p4), .val (.int p5), .val (.ref a1), .val (.ref a2), .val (.ref a4), .unset, .unset, .unset, .unset, .unset, .unset, .unset, .unset, .unset] [(.int (1 : Int32))]))
  refine own_newR (CC := "java/lang/Object") (n := (1 : Int32)) (cap := 1) (vs := [.null]) C P4 (hw _ (List.mem_of_getElem? (i := 0) rfl)) (hw _ (List.mem_of_getElem? (i := 1) rfl)) at_19 (by decide) (by decide) (by decide) (by decide +kernel) rfl (by decide) (by decide) (fun T7 h7 a7 k7 ga7 la7 P7 K7 Y7 N7 V7 => ?_)
  have ge_a7 : h0.size ≤ a7 := by rw [ga7]; exact P4.keep.1
  have lt_a4_a7 : @LT.lt Nat _ a4 a7 := by rw [ga7]; exact Y4.lt
  have Y8_a1 := Y5_a1.keep K7 nin0
  have Y9_a2 := Y6_a2.keep K7 nin0
  have Y10_a4 := Y4.keep K7 nin0
  show OwnDone p e below _ (T7.setTop (mkF m 22 #[.val (.int p1), .val (.int p2), .val (.int p3), .val (.int p4), .val (.int p5), .val (.ref a1), .val (.ref a2), .val (.ref a4), .unset, .unset, .unset, .unset, .unset, .unset, .unset, .unset, .unset] [(.ref a7)]))
  refine OwnDone.go (A := (T7.setTop (mkF m 25 #[.val (.int p1), .val (.int p2), .val (.int p3), .val (.int p4), .val (.int p5), .val (.ref a1), .val (.ref a2), .val (.ref a4), .val (.ref a7), .unset, .unset, .unset, .unset, .unset, .unset, .unset, .unset] [(.int (1 : Int32))]))) (fun tQ kQ => ?_) ?_
  · refine XS.astore P7.here hx rfl (hb hby at_22) rfl rfl (l' := #[.val (.int p1), .val (.int p2), .val (.int p3), .val (.int p4), .val (.int p5), .val (.ref a1), .val (.ref a2), .val (.ref a4), .val (.ref a7), .unset, .unset, .unset, .unset, .unset, .unset, .unset, .unset]) rfl ?_
    show Steps p.tables e below (T7.setTop (mkF m 24 #[.val (.int p1), .val (.int p2), .val (.int p3), .val (.int p4), .val (.int p5), .val (.ref a1), .val (.ref a2), .val (.ref a4), .val (.ref a7), .unset, .unset, .unset, .unset, .unset, .unset, .unset, .unset] [])) _
    refine XS.iconst P7.here hx rfl (hb hby at_24) ?_
    show Steps p.tables e below (T7.setTop (mkF m 25 #[.val (.int p1), .val (.int p2), .val (.int p3), .val (.int p4), .val (.int p5), .val (.ref a1), .val (.ref a2), .val (.ref a4), .val (.ref a7), .unset, .unset, .unset, .unset, .unset, .unset, .unset, .unset] [(.int (1 : Int32))])) _
    exact kQ
  show OwnDone p e below _ (T7.setTop (mkF m 25 #[.val (.int p1), .val (.int p2), .val (.int p3), .val (.int p4), .val (.int p5), .val (.ref a1), .val (.ref a2), .val (.ref a4), .val (.ref a7), .unset, .unset, .unset, .unset, .unset, .unset, .unset, .unset] [(.int (1 : Int32))]))
  refine own_newR (CC := "java/lang/Object") (n := (1 : Int32)) (cap := 1) (vs := [.null]) C P7 (hw _ (List.mem_of_getElem? (i := 0) rfl)) (hw _ (List.mem_of_getElem? (i := 1) rfl)) at_25 (by decide) (by decide) (by decide) (by decide +kernel) rfl (by decide) (by decide) (fun T11 h11 a11 k11 ga11 la11 P11 K11 Y11 N11 V11 => ?_)
  have ge_a11 : h0.size ≤ a11 := by rw [ga11]; exact P7.keep.1
  have lt_a7_a11 : @LT.lt Nat _ a7 a11 := by rw [ga11]; exact Y7.lt
  have Y12_a1 := Y8_a1.keep K11 nin0
  have Y13_a2 := Y9_a2.keep K11 nin0
  have Y14_a4 := Y10_a4.keep K11 nin0
  have Y15_a7 := Y7.keep K11 nin0
  show OwnDone p e below _ (T11.setTop (mkF m 28 #[.val (.int p1), .val (.int p2), .val (.int p3), .val (.int p4), .val (.int p5), .val (.ref a1), .val (.ref a2), .val (.ref a4), .val (.ref a7), .unset, .unset, .unset, .unset, .unset, .unset, .unset, .unset] [(.ref a11)]))
  refine OwnDone.go (A := (T11.setTop (mkF m 31 #[.val (.int p1), .val (.int p2), .val (.int p3), .val (.int p4), .val (.int p5), .val (.ref a1), .val (.ref a2), .val (.ref a4), .val (.ref a7), .val (.ref a11), .unset, .unset, .unset, .unset, .unset, .unset, .unset] [(.int (1 : Int32))]))) (fun tQ kQ => ?_) ?_
  · refine XS.astore P11.here hx rfl (hb hby at_28) rfl rfl (l' := #[.val (.int p1), .val (.int p2), .val (.int p3), .val (.int p4), .val (.int p5), .val (.ref a1), .val (.ref a2), .val (.ref a4), .val (.ref a7), .val (.ref a11), .unset, .unset, .unset, .unset, .unset, .unset, .unset]) rfl ?_
    show Steps p.tables e below (T11.setTop (mkF m 30 #[.val (.int p1), .val (.int p2), .val (.int p3), .val (.int p4), .val (.int p5), .val (.ref a1), .val (.ref a2), .val (.ref a4), .val (.ref a7), .val (.ref a11), .unset, .unset, .unset, .unset, .unset, .unset, .unset] [])) _
    refine XS.iconst P11.here hx rfl (hb hby at_30) ?_
    show Steps p.tables e below (T11.setTop (mkF m 31 #[.val (.int p1), .val (.int p2), .val (.int p3), .val (.int p4), .val (.int p5), .val (.ref a1), .val (.ref a2), .val (.ref a4), .val (.ref a7), .val (.ref a11), .unset, .unset, .unset, .unset, .unset, .unset, .unset] [(.int (1 : Int32))])) _
    exact kQ
  show OwnDone p e below _ (T11.setTop (mkF m 31 #[.val (.int p1), .val (.int p2), .val (.int p3), .val (.int p4), .val (.int p5), .val (.ref a1), .val (.ref a2), .val (.ref a4), .val (.ref a7), .val (.ref a11), .unset, .unset, .unset, .unset, .unset, .unset, .unset] [(.int (1 : Int32))]))
  refine own_newR (CC := "java/lang/Object") (n := (1 : Int32)) (cap := 1) (vs := [.null]) C P11 (hw _ (List.mem_of_getElem? (i := 0) rfl)) (hw _ (List.mem_of_getElem? (i := 1) rfl)) at_31 (by decide) (by decide) (by decide) (by decide +kernel) rfl (by decide) (by decide) (fun T16 h16 a16 k16 ga16 la16 P16 K16 Y16 N16 V16 => ?_)
  have ge_a16 : h0.size ≤ a16 := by rw [ga16]; exact P11.keep.1
  have lt_a11_a16 : @LT.lt Nat _ a11 a16 := by rw [ga16]; exact Y11.lt
  have Y17_a1 := Y12_a1.keep K16 nin0
  have Y18_a2 := Y13_a2.keep K16 nin0
  have Y19_a4 := Y14_a4.keep K16 nin0
  have Y20_a7 := Y15_a7.keep K16 nin0
  have Y21_a11 := Y11.keep K16 nin0
  show OwnDone p e below _ (T16.setTop (mkF m 34 #[.val (.int p1), .val (.int p2), .val (.int p3), .val (.int p4), .val (.int p5), .val (.ref a1), .val (.ref a2), .val (.ref a4), .val (.ref a7), .val (.ref a11), .unset, .unset, .unset, .unset, .unset, .unset, .unset] [(.ref a16)]))
  refine OwnDone.go (A := (T16.setTop (mkF m 37 #[.val (.int p1), .val (.int p2), .val (.int p3), .val (.int p4), .val (.int p5), .val (.ref a1), .val (.ref a2), .val (.ref a4), .val (.ref a7), .val (.ref a11), .val (.ref a16), .unset, .unset, .unset, .unset, .unset, .unset] [(.int (1 : Int32))]))) (fun tQ kQ => ?_) ?_
  · refine XS.astore P16.here hx rfl (hb hby at_34) rfl rfl (l' := #[.val (.int p1), .val (.int p2), .val (.int p3), .val (.int p4), .val (.int p5), .val (.ref a1), .val (.ref a2), .val (.ref a4), .val (.ref a7), .val (.ref a11), .val (.ref a16), .unset, .unset, .unset, .unset, .unset, .unset]) rfl ?_
    show Steps p.tables e below (T16.setTop (mkF m 36 #[.val (.int p1), .val (.int p2), .val (.int p3), .val (.int p4), .val (.int p5), .val (.ref a1), .val (.ref a2), .val (.ref a4), .val (.ref a7), .val (.ref a11), .val (.ref a16), .unset, .unset, .unset, .unset, .unset, .unset] [])) _
    refine XS.iconst P16.here hx rfl (hb hby at_36) ?_
    show Steps p.tables e below (T16.setTop (mkF m 37 #[.val (.int p1), .val (.int p2), .val (.int p3), .val (.int p4), .val (.int p5), .val (.ref a1), .val (.ref a2), .val (.ref a4), .val (.ref a7), .val (.ref a11), .val (.ref a16), .unset, .unset, .unset, .unset, .unset, .unset] [(.int (1 : Int32))])) _
    exact kQ
  show OwnDone p e below _ (T16.setTop (mkF m 37 #[.val (.int p1), .val (.int p2), .val (.int p3), .val (.int p4), .val (.int p5), .val (.ref a1), .val (.ref a2), .val (.ref a4), .val (.ref a7), .val (.ref a11), .val (.ref a16), .unset, .unset, .unset, .unset, .unset, .unset] [(.int (1 : Int32))]))
  refine own_newR (CC := "java/lang/Object") (n := (1 : Int32)) (cap := 1) (vs := [.null]) C P16 (hw _ (List.mem_of_getElem? (i := 0) rfl)) (hw _ (List.mem_of_getElem? (i := 1) rfl)) at_37 (by decide) (by decide) (by decide) (by decide +kernel) rfl (by decide) (by decide) (fun T22 h22 a22 k22 ga22 la22 P22 K22 Y22 N22 V22 => ?_)
  have ge_a22 : h0.size ≤ a22 := by rw [ga22]; exact P16.keep.1
  have lt_a16_a22 : @LT.lt Nat _ a16 a22 := by rw [ga22]; exact Y16.lt
  have Y23_a1 := Y17_a1.keep K22 nin0
  have Y24_a2 := Y18_a2.keep K22 nin0
  have Y25_a4 := Y19_a4.keep K22 nin0
  have Y26_a7 := Y20_a7.keep K22 nin0
  have Y27_a11 := Y21_a11.keep K22 nin0
  have Y28_a16 := Y16.keep K22 nin0
  show OwnDone p e below _ (T22.setTop (mkF m 40 #[.val (.int p1), .val (.int p2), .val (.int p3), .val (.int p4), .val (.int p5), .val (.ref a1), .val (.ref a2), .val (.ref a4), .val (.ref a7), .val (.ref a11), .val (.ref a16), .unset, .unset, .unset, .unset, .unset, .unset] [(.ref a22)]))
  refine OwnDone.go (A := (T22.setTop (mkF m 43 #[.val (.int p1), .val (.int p2), .val (.int p3), .val (.int p4), .val (.int p5), .val (.ref a1), .val (.ref a2), .val (.ref a4), .val (.ref a7), .val (.ref a11), .val (.ref a16), .val (.ref a22), .unset, .unset, .unset, .unset, .unset] [(.int (4 : Int32))]))) (fun tQ kQ => ?_) ?_
  · refine XS.astore P22.here hx rfl (hb hby at_40) rfl rfl (l' := #[.val (.int p1), .val (.int p2), .val (.int p3), .val (.int p4), .val (.int p5), .val (.ref a1), .val (.ref a2), .val (.ref a4), .val (.ref a7), .val (.ref a11), .val (.ref a16), .val (.ref a22), .unset, .unset, .unset, .unset, .unset]) rfl ?_
    show Steps p.tables e below (T22.setTop (mkF m 42 #[.val (.int p1), .val (.int p2), .val (.int p3), .val (.int p4), .val (.int p5), .val (.ref a1), .val (.ref a2), .val (.ref a4), .val (.ref a7), .val (.ref a11), .val (.ref a16), .val (.ref a22), .unset, .unset, .unset, .unset, .unset] [])) _
    refine XS.iconst P22.here hx rfl (hb hby at_42) ?_
    show Steps p.tables e below (T22.setTop (mkF m 43 #[.val (.int p1), .val (.int p2), .val (.int p3), .val (.int p4), .val (.int p5), .val (.ref a1), .val (.ref a2), .val (.ref a4), .val (.ref a7), .val (.ref a11), .val (.ref a16), .val (.ref a22), .unset, .unset, .unset, .unset, .unset] [(.int (4 : Int32))])) _
    exact kQ
  show OwnDone p e below _ (T22.setTop (mkF m 43 #[.val (.int p1), .val (.int p2), .val (.int p3), .val (.int p4), .val (.int p5), .val (.ref a1), .val (.ref a2), .val (.ref a4), .val (.ref a7), .val (.ref a11), .val (.ref a16), .val (.ref a22), .unset, .unset, .unset, .unset, .unset] [(.int (4 : Int32))]))
  refine own_newA (CC := "[Ljava/lang/Object;") (t := (.object "java/lang/Object")) (n := (4 : Int32)) (cap := 4) (vs := [.null, .null, .null, .null]) C P22 rfl (hw _ (List.mem_of_getElem? (i := 2) rfl)) (hw _ (List.mem_of_getElem? (i := 3) rfl)) at_43 (by decide) (by decide) (by decide) (by decide +kernel) rfl (by decide) (by decide) (fun T29 h29 a29 k29 ga29 la29 P29 K29 Y29 N29 V29 => ?_)
  have ge_a29 : h0.size ≤ a29 := by rw [ga29]; exact P22.keep.1
  have lt_a22_a29 : @LT.lt Nat _ a22 a29 := by rw [ga29]; exact Y22.lt
  have Y30_a1 := Y23_a1.keep K29 nin0
  have Y31_a2 := Y24_a2.keep K29 nin0
  have Y32_a4 := Y25_a4.keep K29 nin0
  have Y33_a7 := Y26_a7.keep K29 nin0
  have Y34_a11 := Y27_a11.keep K29 nin0
  have Y35_a16 := Y28_a16.keep K29 nin0
  have Y36_a22 := Y22.keep K29 nin0
  show OwnDone p e below _ (T29.setTop (mkF m 46 #[.val (.int p1), .val (.int p2), .val (.int p3), .val (.int p4), .val (.int p5), .val (.ref a1), .val (.ref a2), .val (.ref a4), .val (.ref a7), .val (.ref a11), .val (.ref a16), .val (.ref a22), .unset, .unset, .unset, .unset, .unset] [(.ref a29)]))
  refine OwnDone.go (A := (T29.setTop (mkF m 50 #[.val (.int p1), .val (.int p2), .val (.int p3), .val (.int p4), .val (.int p5), .val (.ref a1), .val (.ref a2), .val (.ref a4), .val (.ref a7), .val (.ref a11), .val (.ref a16), .val (.ref a22), .unset, .unset, .unset, .unset, .unset] [(.ref a1), (.int (0 : Int32)), (.ref a29), (.ref a29)]))) (fun tQ kQ => ?_) ?_
  · refine XS.dup P29.here hx rfl (hb hby at_46) rfl rfl ?_
    show Steps p.tables e below (T29.setTop (mkF m 47 #[.val (.int p1), .val (.int p2), .val (.int p3), .val (.int p4), .val (.int p5), .val (.ref a1), .val (.ref a2), .val (.ref a4), .val (.ref a7), .val (.ref a11), .val (.ref a16), .val (.ref a22), .unset, .unset, .unset, .unset, .unset] [(.ref a29), (.ref a29)])) _
    refine XS.iconst P29.here hx rfl (hb hby at_47) ?_
    show Steps p.tables e below (T29.setTop (mkF m 48 #[.val (.int p1), .val (.int p2), .val (.int p3), .val (.int p4), .val (.int p5), .val (.ref a1), .val (.ref a2), .val (.ref a4), .val (.ref a7), .val (.ref a11), .val (.ref a16), .val (.ref a22), .unset, .unset, .unset, .unset, .unset] [(.int (0 : Int32)), (.ref a29), (.ref a29)])) _
    refine XS.aload P29.here hx rfl (hb hby at_48) rfl rfl ?_
    show Steps p.tables e below (T29.setTop (mkF m 50 #[.val (.int p1), .val (.int p2), .val (.int p3), .val (.int p4), .val (.int p5), .val (.ref a1), .val (.ref a2), .val (.ref a4), .val (.ref a7), .val (.ref a11), .val (.ref a16), .val (.ref a22), .unset, .unset, .unset, .unset, .unset] [(.ref a1), (.int (0 : Int32)), (.ref a29), (.ref a29)])) _
    exact kQ
  show OwnDone p e below _ (T29.setTop (mkF m 50 #[.val (.int p1), .val (.int p2), .val (.int p3), .val (.int p4), .val (.int p5), .val (.ref a1), .val (.ref a2), .val (.ref a4), .val (.ref a7), .val (.ref a11), .val (.ref a16), .val (.ref a22), .unset, .unset, .unset, .unset, .unset] [(.ref a1), (.int (0 : Int32)), (.ref a29), (.ref a29)]))
  refine own_aastore C P29 Y29 rfl (by decide) (show ((0 : Int32) : Int32).toNatClampNeg < 4 from by decide) (Y29.stoA V29 (Y30_a1.ins N1)) (Or.inr ge_a29) at_50 (vs' := [(.ref a1), .null, .null, .null]) rfl (fun T37 h37 P37 K37 Y37 => ?_)
  have Y38_a1 := Y30_a1.keep K37 (ninS (own_neL (by omega)) nin0)
  have Y39_a2 := Y31_a2.keep K37 (ninS (own_neL (by omega)) nin0)
  have Y40_a4 := Y32_a4.keep K37 (ninS (own_neL (by omega)) nin0)
  have Y41_a7 := Y33_a7.keep K37 (ninS (own_neL (by omega)) nin0)
  have Y42_a11 := Y34_a11.keep K37 (ninS (own_neL (by omega)) nin0)
  have Y43_a16 := Y35_a16.keep K37 (ninS (own_neL (by omega)) nin0)
  have Y44_a22 := Y36_a22.keep K37 (ninS (own_neL (by omega)) nin0)
  show OwnDone p e below _ (T37.setTop (mkF m 51 #[.val (.int p1), .val (.int p2), .val (.int p3), .val (.int p4), .val (.int p5), .val (.ref a1), .val (.ref a2), .val (.ref a4), .val (.ref a7), .val (.ref a11), .val (.ref a16), .val (.ref a22), .unset, .unset, .unset, .unset, .unset] [(.ref a29)]))
  refine OwnDone.go (A := (T37.setTop (mkF m 55 #[.val (.int p1), .val (.int p2), .val (.int p3), .val (.int p4), .val (.int p5), .val (.ref a1), .val (.ref a2), .val (.ref a4), .val (.ref a7), .val (.ref a11), .val (.ref a16), .val (.ref a22), .unset, .unset, .unset, .unset, .unset] [(.ref a2), (.int (1 : Int32)), (.ref a29), (.ref a29)]))) (fun tQ kQ => ?_) ?_
  · refine XS.dup P37.here hx rfl (hb hby at_51) rfl rfl ?_
    show Steps p.tables e below (T37.setTop (mkF m 52 #[.val (.int p1), .val (.int p2), .val (.int p3), .val (.int p4), .val (.int p5), .val (.ref a1), .val (.ref a2), .val (.ref a4), .val (.ref a7), .val (.ref a11), .val (.ref a16), .val (.ref a22), .unset, .unset, .unset, .unset, .unset] [(.ref a29), (.ref a29)])) _
    refine XS.iconst P37.here hx rfl (hb hby at_52) ?_
    show Steps p.tables e below (T37.setTop (mkF m 53 #[.val (.int p1), .val (.int p2), .val (.int p3), .val (.int p4), .val (.int p5), .val (.ref a1), .val (.ref a2), .val (.ref a4), .val (.ref a7), .val (.ref a11), .val (.ref a16), .val (.ref a22), .unset, .unset, .unset, .unset, .unset] [(.int (1 : Int32)), (.ref a29), (.ref a29)])) _
    refine XS.aload P37.here hx rfl (hb hby at_53) rfl rfl ?_
    show Steps p.tables e below (T37.setTop (mkF m 55 #[.val (.int p1), .val (.int p2), .val (.int p3), .val (.int p4), .val (.int p5), .val (.ref a1), .val (.ref a2), .val (.ref a4), .val (.ref a7), .val (.ref a11), .val (.ref a16), .val (.ref a22), .unset, .unset, .unset, .unset, .unset] [(.ref a2), (.int (1 : Int32)), (.ref a29), (.ref a29)])) _
    exact kQ
  show OwnDone p e below _ (T37.setTop (mkF m 55 #[.val (.int p1), .val (.int p2), .val (.int p3), .val (.int p4), .val (.int p5), .val (.ref a1), .val (.ref a2), .val (.ref a4), .val (.ref a7), .val (.ref a11), .val (.ref a16), .val (.ref a22), .unset, .unset, .unset, .unset, .unset] [(.ref a2), (.int (1 : Int32)), (.ref a29), (.ref a29)]))
  refine own_aastore C P37 Y37 rfl (by decide) (show ((1 : Int32) : Int32).toNatClampNeg < 4 from by decide) (Y37.stoA V29 (Y39_a2.ins N2)) (Or.inr ge_a29) at_55 (vs' := [(.ref a1), (.ref a2), .null, .null]) rfl (fun T45 h45 P45 K45 Y45 => ?_)
  have Y46_a1 := Y38_a1.keep K45 (ninS (own_neL (by omega)) nin0)
  have Y47_a2 := Y39_a2.keep K45 (ninS (own_neL (by omega)) nin0)
  have Y48_a4 := Y40_a4.keep K45 (ninS (own_neL (by omega)) nin0)
  have Y49_a7 := Y41_a7.keep K45 (ninS (own_neL (by omega)) nin0)
  have Y50_a11 := Y42_a11.keep K45 (ninS (own_neL (by omega)) nin0)
  have Y51_a16 := Y43_a16.keep K45 (ninS (own_neL (by omega)) nin0)
  have Y52_a22 := Y44_a22.keep K45 (ninS (own_neL (by omega)) nin0)
  show OwnDone p e below _ (T45.setTop (mkF m 56 #[.val (.int p1), .val (.int p2), .val (.int p3), .val (.int p4), .val (.int p5), .val (.ref a1), .val (.ref a2), .val (.ref a4), .val (.ref a7), .val (.ref a11), .val (.ref a16), .val (.ref a22), .unset, .unset, .unset, .unset, .unset] [(.ref a29)]))
  refine OwnDone.go (A := (T45.setTop (mkF m 60 #[.val (.int p1), .val (.int p2), .val (.int p3), .val (.int p4), .val (.int p5), .val (.ref a1), .val (.ref a2), .val (.ref a4), .val (.ref a7), .val (.ref a11), .val (.ref a16), .val (.ref a22), .unset, .unset, .unset, .unset, .unset] [(.ref a4), (.int (2 : Int32)), (.ref a29), (.ref a29)]))) (fun tQ kQ => ?_) ?_
  · refine XS.dup P45.here hx rfl (hb hby at_56) rfl rfl ?_
    show Steps p.tables e below (T45.setTop (mkF m 57 #[.val (.int p1), .val (.int p2), .val (.int p3), .val (.int p4), .val (.int p5), .val (.ref a1), .val (.ref a2), .val (.ref a4), .val (.ref a7), .val (.ref a11), .val (.ref a16), .val (.ref a22), .unset, .unset, .unset, .unset, .unset] [(.ref a29), (.ref a29)])) _
    refine XS.iconst P45.here hx rfl (hb hby at_57) ?_
    show Steps p.tables e below (T45.setTop (mkF m 58 #[.val (.int p1), .val (.int p2), .val (.int p3), .val (.int p4), .val (.int p5), .val (.ref a1), .val (.ref a2), .val (.ref a4), .val (.ref a7), .val (.ref a11), .val (.ref a16), .val (.ref a22), .unset, .unset, .unset, .unset, .unset] [(.int (2 : Int32)), (.ref a29), (.ref a29)])) _
    refine XS.aload P45.here hx rfl (hb hby at_58) rfl rfl ?_
    show Steps p.tables e below (T45.setTop (mkF m 60 #[.val (.int p1), .val (.int p2), .val (.int p3), .val (.int p4), .val (.int p5), .val (.ref a1), .val (.ref a2), .val (.ref a4), .val (.ref a7), .val (.ref a11), .val (.ref a16), .val (.ref a22), .unset, .unset, .unset, .unset, .unset] [(.ref a4), (.int (2 : Int32)), (.ref a29), (.ref a29)])) _
    exact kQ
  show OwnDone p e below _ (T45.setTop (mkF m 60 #[.val (.int p1), .val (.int p2), .val (.int p3), .val (.int p4), .val (.int p5), .val (.ref a1), .val (.ref a2), .val (.ref a4), .val (.ref a7), .val (.ref a11), .val (.ref a16), .val (.ref a22), .unset, .unset, .unset, .unset, .unset] [(.ref a4), (.int (2 : Int32)), (.ref a29), (.ref a29)]))
  refine own_aastore C P45 Y45 rfl (by decide) (show ((2 : Int32) : Int32).toNatClampNeg < 4 from by decide) (Y45.stoA V29 (Y48_a4.ins N4)) (Or.inr ge_a29) at_60 (vs' := [(.ref a1), (.ref a2), (.ref a4), .null]) rfl (fun T53 h53 P53 K53 Y53 => ?_)
  have Y54_a1 := Y46_a1.keep K53 (ninS (own_neL (by omega)) nin0)
  have Y55_a2 := Y47_a2.keep K53 (ninS (own_neL (by omega)) nin0)
  have Y56_a4 := Y48_a4.keep K53 (ninS (own_neL (by omega)) nin0)
  have Y57_a7 := Y49_a7.keep K53 (ninS (own_neL (by omega)) nin0)
  have Y58_a11 := Y50_a11.keep K53 (ninS (own_neL (by omega)) nin0)
  have Y59_a16 := Y51_a16.keep K53 (ninS (own_neL (by omega)) nin0)
  have Y60_a22 := Y52_a22.keep K53 (ninS (own_neL (by omega)) nin0)
  show OwnDone p e below _ (T53.setTop (mkF m 61 #[.val (.int p1), .val (.int p2), .val (.int p3), .val (.int p4), .val (.int p5), .val (.ref a1), .val (.ref a2), .val (.ref a4), .val (.ref a7), .val (.ref a11), .val (.ref a16), .val (.ref a22), .unset, .unset, .unset, .unset, .unset] [(.ref a29)]))
  refine OwnDone.go (A := (T53.setTop (mkF m 65 #[.val (.int p1), .val (.int p2), .val (.int p3), .val (.int p4), .val (.int p5), .val (.ref a1), .val (.ref a2), .val (.ref a4), .val (.ref a7), .val (.ref a11), .val (.ref a16), .val (.ref a22), .unset, .unset, .unset, .unset, .unset] [(.ref a7), (.int (3 : Int32)), (.ref a29), (.ref a29)]))) (fun tQ kQ => ?_) ?_
  · refine XS.dup P53.here hx rfl (hb hby at_61) rfl rfl ?_
    show Steps p.tables e below (T53.setTop (mkF m 62 #[.val (.int p1), .val (.int p2), .val (.int p3), .val (.int p4), .val (.int p5), .val (.ref a1), .val (.ref a2), .val (.ref a4), .val (.ref a7), .val (.ref a11), .val (.ref a16), .val (.ref a22), .unset, .unset, .unset, .unset, .unset] [(.ref a29), (.ref a29)])) _
    refine XS.iconst P53.here hx rfl (hb hby at_62) ?_
    show Steps p.tables e below (T53.setTop (mkF m 63 #[.val (.int p1), .val (.int p2), .val (.int p3), .val (.int p4), .val (.int p5), .val (.ref a1), .val (.ref a2), .val (.ref a4), .val (.ref a7), .val (.ref a11), .val (.ref a16), .val (.ref a22), .unset, .unset, .unset, .unset, .unset] [(.int (3 : Int32)), (.ref a29), (.ref a29)])) _
    refine XS.aload P53.here hx rfl (hb hby at_63) rfl rfl ?_
    show Steps p.tables e below (T53.setTop (mkF m 65 #[.val (.int p1), .val (.int p2), .val (.int p3), .val (.int p4), .val (.int p5), .val (.ref a1), .val (.ref a2), .val (.ref a4), .val (.ref a7), .val (.ref a11), .val (.ref a16), .val (.ref a22), .unset, .unset, .unset, .unset, .unset] [(.ref a7), (.int (3 : Int32)), (.ref a29), (.ref a29)])) _
    exact kQ
  show OwnDone p e below _ (T53.setTop (mkF m 65 #[.val (.int p1), .val (.int p2), .val (.int p3), .val (.int p4), .val (.int p5), .val (.ref a1), .val (.ref a2), .val (.ref a4), .val (.ref a7), .val (.ref a11), .val (.ref a16), .val (.ref a22), .unset, .unset, .unset, .unset, .unset] [(.ref a7), (.int (3 : Int32)), (.ref a29), (.ref a29)]))
  refine own_aastore C P53 Y53 rfl (by decide) (show ((3 : Int32) : Int32).toNatClampNeg < 4 from by decide) (Y53.stoA V29 (Y57_a7.ins N7)) (Or.inr ge_a29) at_65 (vs' := [(.ref a1), (.ref a2), (.ref a4), (.ref a7)]) rfl (fun T61 h61 P61 K61 Y61 => ?_)
  have Y62_a1 := Y54_a1.keep K61 (ninS (own_neL (by omega)) nin0)
  have Y63_a2 := Y55_a2.keep K61 (ninS (own_neL (by omega)) nin0)
  have Y64_a4 := Y56_a4.keep K61 (ninS (own_neL (by omega)) nin0)
  have Y65_a7 := Y57_a7.keep K61 (ninS (own_neL (by omega)) nin0)
  have Y66_a11 := Y58_a11.keep K61 (ninS (own_neL (by omega)) nin0)
  have Y67_a16 := Y59_a16.keep K61 (ninS (own_neL (by omega)) nin0)
  have Y68_a22 := Y60_a22.keep K61 (ninS (own_neL (by omega)) nin0)
  show OwnDone p e below _ (T61.setTop (mkF m 66 #[.val (.int p1), .val (.int p2), .val (.int p3), .val (.int p4), .val (.int p5), .val (.ref a1), .val (.ref a2), .val (.ref a4), .val (.ref a7), .val (.ref a11), .val (.ref a16), .val (.ref a22), .unset, .unset, .unset, .unset, .unset] [(.ref a29)]))
  refine OwnDone.go (A := (T61.setTop (mkF m 69 #[.val (.int p1), .val (.int p2), .val (.int p3), .val (.int p4), .val (.int p5), .val (.ref a1), .val (.ref a2), .val (.ref a4), .val (.ref a7), .val (.ref a11), .val (.ref a16), .val (.ref a22), .val (.ref a29), .unset, .unset, .unset, .unset] [(.int (4 : Int32))]))) (fun tQ kQ => ?_) ?_
  · refine XS.astore P61.here hx rfl (hb hby at_66) rfl rfl (l' := #[.val (.int p1), .val (.int p2), .val (.int p3), .val (.int p4), .val (.int p5), .val (.ref a1), .val (.ref a2), .val (.ref a4), .val (.ref a7), .val (.ref a11), .val (.ref a16), .val (.ref a22), .val (.ref a29), .unset, .unset, .unset, .unset]) rfl ?_
    show Steps p.tables e below (T61.setTop (mkF m 68 #[.val (.int p1), .val (.int p2), .val (.int p3), .val (.int p4), .val (.int p5), .val (.ref a1), .val (.ref a2), .val (.ref a4), .val (.ref a7), .val (.ref a11), .val (.ref a16), .val (.ref a22), .val (.ref a29), .unset, .unset, .unset, .unset] [])) _
    refine XS.iconst P61.here hx rfl (hb hby at_68) ?_
    show Steps p.tables e below (T61.setTop (mkF m 69 #[.val (.int p1), .val (.int p2), .val (.int p3), .val (.int p4), .val (.int p5), .val (.ref a1), .val (.ref a2), .val (.ref a4), .val (.ref a7), .val (.ref a11), .val (.ref a16), .val (.ref a22), .val (.ref a29), .unset, .unset, .unset, .unset] [(.int (4 : Int32))])) _
    exact kQ
  show OwnDone p e below _ (T61.setTop (mkF m 69 #[.val (.int p1), .val (.int p2), .val (.int p3), .val (.int p4), .val (.int p5), .val (.ref a1), .val (.ref a2), .val (.ref a4), .val (.ref a7), .val (.ref a11), .val (.ref a16), .val (.ref a22), .val (.ref a29), .unset, .unset, .unset, .unset] [(.int (4 : Int32))]))
  refine own_newP (aty := .int) (n := (4 : Int32)) (cap := 4) (vs := [(.int (0 : Int32)), (.int (0 : Int32)), (.int (0 : Int32)), (.int (0 : Int32))]) C P61 (hw _ (List.mem_of_getElem? (i := 5) rfl)) at_69 (by decide) (by decide) (by decide) (by decide +kernel) rfl (by decide) (by decide) (fun T69 h69 a69 k69 ga69 la69 P69 K69 Y69 N69 => ?_)
  have ge_a69 : h0.size ≤ a69 := by rw [ga69]; exact P61.keep.1
  have lt_a29_a69 : @LT.lt Nat _ a29 a69 := by rw [ga69]; exact Y61.lt
  have Y70_a1 := Y62_a1.keep K69 nin0
  have Y71_a2 := Y63_a2.keep K69 nin0
  have Y72_a4 := Y64_a4.keep K69 nin0
  have Y73_a7 := Y65_a7.keep K69 nin0
  have Y74_a11 := Y66_a11.keep K69 nin0
  have Y75_a16 := Y67_a16.keep K69 nin0
  have Y76_a22 := Y68_a22.keep K69 nin0
  have Y77_a29 := Y61.keep K69 nin0
  have Y69 : OwnAry Z h69 a69 k69 .int [(.int (0 : Int32)), (.int (0 : Int32)), (.int (0 : Int32)), (.int (0 : Int32))] := Y69
  show OwnDone p e below _ (T69.setTop (mkF m 71 #[.val (.int p1), .val (.int p2), .val (.int p3), .val (.int p4), .val (.int p5), .val (.ref a1), .val (.ref a2), .val (.ref a4), .val (.ref a7), .val (.ref a11), .val (.ref a16), .val (.ref a22), .val (.ref a29), .unset, .unset, .unset, .unset] [(.ref a69)]))
  refine OwnDone.go (A := (T69.setTop (mkF m 75 #[.val (.int p1), .val (.int p2), .val (.int p3), .val (.int p4), .val (.int p5), .val (.ref a1), .val (.ref a2), .val (.ref a4), .val (.ref a7), .val (.ref a11), .val (.ref a16), .val (.ref a22), .val (.ref a29), .unset, .unset, .unset, .unset] [(.int p5), (.int (0 : Int32)), (.ref a69), (.ref a69)]))) (fun tQ kQ => ?_) ?_
  · refine XS.dup P69.here hx rfl (hb hby at_71) rfl rfl ?_
    show Steps p.tables e below (T69.setTop (mkF m 72 #[.val (.int p1), .val (.int p2), .val (.int p3), .val (.int p4), .val (.int p5), .val (.ref a1), .val (.ref a2), .val (.ref a4), .val (.ref a7), .val (.ref a11), .val (.ref a16), .val (.ref a22), .val (.ref a29), .unset, .unset, .unset, .unset] [(.ref a69), (.ref a69)])) _
    refine XS.iconst P69.here hx rfl (hb hby at_72) ?_
    show Steps p.tables e below (T69.setTop (mkF m 73 #[.val (.int p1), .val (.int p2), .val (.int p3), .val (.int p4), .val (.int p5), .val (.ref a1), .val (.ref a2), .val (.ref a4), .val (.ref a7), .val (.ref a11), .val (.ref a16), .val (.ref a22), .val (.ref a29), .unset, .unset, .unset, .unset] [(.int (0 : Int32)), (.ref a69), (.ref a69)])) _
    refine XS.iload P69.here hx rfl (hb hby at_73) rfl ?_
    show Steps p.tables e below (T69.setTop (mkF m 75 #[.val (.int p1), .val (.int p2), .val (.int p3), .val (.int p4), .val (.int p5), .val (.ref a1), .val (.ref a2), .val (.ref a4), .val (.ref a7), .val (.ref a11), .val (.ref a16), .val (.ref a22), .val (.ref a29), .unset, .unset, .unset, .unset] [(.int p5), (.int (0 : Int32)), (.ref a69), (.ref a69)])) _
    exact kQ
  show OwnDone p e below _ (T69.setTop (mkF m 75 #[.val (.int p1), .val (.int p2), .val (.int p3), .val (.int p4), .val (.int p5), .val (.ref a1), .val (.ref a2), .val (.ref a4), .val (.ref a7), .val (.ref a11), .val (.ref a16), .val (.ref a22), .val (.ref a29), .unset, .unset, .unset, .unset] [(.int p5), (.int (0 : Int32)), (.ref a69), (.ref a69)]))
  refine own_iastore C P69 Y69 (by decide) (show ((0 : Int32) : Int32).toNatClampNeg < 4 from by decide) (Or.inr ge_a69) at_75 (vs' := [(.int p5), (.int (0 : Int32)), (.int (0 : Int32)), (.int (0 : Int32))]) rfl (fun T78 h78 P78 K78 Y78 => ?_)
  have Y79_a1 := Y70_a1.keep K78 (ninS (own_neL (by omega)) nin0)
  have Y80_a2 := Y71_a2.keep K78 (ninS (own_neL (by omega)) nin0)
  have Y81_a4 := Y72_a4.keep K78 (ninS (own_neL (by omega)) nin0)
  have Y82_a7 := Y73_a7.keep K78 (ninS (own_neL (by omega)) nin0)
  have Y83_a11 := Y74_a11.keep K78 (ninS (own_neL (by omega)) nin0)
  have Y84_a16 := Y75_a16.keep K78 (ninS (own_neL (by omega)) nin0)
  have Y85_a22 := Y76_a22.keep K78 (ninS (own_neL (by omega)) nin0)
  have Y86_a29 := Y77_a29.keep K78 (ninS (own_neL (by omega)) nin0)
  show OwnDone p e below _ (T78.setTop (mkF m 76 #[.val (.int p1), .val (.int p2), .val (.int p3), .val (.int p4), .val (.int p5), .val (.ref a1), .val (.ref a2), .val (.ref a4), .val (.ref a7), .val (.ref a11), .val (.ref a16), .val (.ref a22), .val (.ref a29), .unset, .unset, .unset, .unset] [(.ref a69)]))
  refine OwnDone.go (A := (T78.setTop (mkF m 82 #[.val (.int p1), .val (.int p2), .val (.int p3), .val (.int p4), .val (.int p5), .val (.ref a1), .val (.ref a2), .val (.ref a4), .val (.ref a7), .val (.ref a11), .val (.ref a16), .val (.ref a22), .val (.ref a29), .unset, .unset, .unset, .unset] [(.int (p5 ^^^ (1 : Int32))), (.int (1 : Int32)), (.ref a69), (.ref a69)]))) (fun tQ kQ => ?_) ?_
  · refine XS.dup P78.here hx rfl (hb hby at_76) rfl rfl ?_
    show Steps p.tables e below (T78.setTop (mkF m 77 #[.val (.int p1), .val (.int p2), .val (.int p3), .val (.int p4), .val (.int p5), .val (.ref a1), .val (.ref a2), .val (.ref a4), .val (.ref a7), .val (.ref a11), .val (.ref a16), .val (.ref a22), .val (.ref a29), .unset, .unset, .unset, .unset] [(.ref a69), (.ref a69)])) _
    refine XS.iconst P78.here hx rfl (hb hby at_77) ?_
    show Steps p.tables e below (T78.setTop (mkF m 78 #[.val (.int p1), .val (.int p2), .val (.int p3), .val (.int p4), .val (.int p5), .val (.ref a1), .val (.ref a2), .val (.ref a4), .val (.ref a7), .val (.ref a11), .val (.ref a16), .val (.ref a22), .val (.ref a29), .unset, .unset, .unset, .unset] [(.int (1 : Int32)), (.ref a69), (.ref a69)])) _
    refine XS.iload P78.here hx rfl (hb hby at_78) rfl ?_
    show Steps p.tables e below (T78.setTop (mkF m 80 #[.val (.int p1), .val (.int p2), .val (.int p3), .val (.int p4), .val (.int p5), .val (.ref a1), .val (.ref a2), .val (.ref a4), .val (.ref a7), .val (.ref a11), .val (.ref a16), .val (.ref a22), .val (.ref a29), .unset, .unset, .unset, .unset] [(.int p5), (.int (1 : Int32)), (.ref a69), (.ref a69)])) _
    refine XS.iconst P78.here hx rfl (hb hby at_80) ?_
    show Steps p.tables e below (T78.setTop (mkF m 81 #[.val (.int p1), .val (.int p2), .val (.int p3), .val (.int p4), .val (.int p5), .val (.ref a1), .val (.ref a2), .val (.ref a4), .val (.ref a7), .val (.ref a11), .val (.ref a16), .val (.ref a22), .val (.ref a29), .unset, .unset, .unset, .unset] [(.int (1 : Int32)), (.int p5), (.int (1 : Int32)), (.ref a69), (.ref a69)])) _
    refine XT.ixor P78.here hx rfl (hb hby at_81) rfl ?_
    show Steps p.tables e below (T78.setTop (mkF m 82 #[.val (.int p1), .val (.int p2), .val (.int p3), .val (.int p4), .val (.int p5), .val (.ref a1), .val (.ref a2), .val (.ref a4), .val (.ref a7), .val (.ref a11), .val (.ref a16), .val (.ref a22), .val (.ref a29), .unset, .unset, .unset, .unset] [(.int (p5 ^^^ (1 : Int32))), (.int (1 : Int32)), (.ref a69), (.ref a69)])) _
    exact kQ
  show OwnDone p e below _ (T78.setTop (mkF m 82 #[.val (.int p1), .val (.int p2), .val (.int p3), .val (.int p4), .val (.int p5), .val (.ref a1), .val (.ref a2), .val (.ref a4), .val (.ref a7), .val (.ref a11), .val (.ref a16), .val (.ref a22), .val (.ref a29), .unset, .unset, .unset, .unset] [(.int (p5 ^^^ (1 : Int32))), (.int (1 : Int32)), (.ref a69), (.ref a69)]))
  refine own_iastore C P78 Y78 (by decide) (show ((1 : Int32) : Int32).toNatClampNeg < 4 from by decide) (Or.inr ge_a69) at_82 (vs' := [(.int p5), (.int (p5 ^^^ (1 : Int32))), (.int (0 : Int32)), (.int (0 : Int32))]) rfl (fun T87 h87 P87 K87 Y87 => ?_)
  have Y88_a1 := Y79_a1.keep K87 (ninS (own_neL (by omega)) nin0)
  have Y89_a2 := Y80_a2.keep K87 (ninS (own_neL (by omega)) nin0)
  have Y90_a4 := Y81_a4.keep K87 (ninS (own_neL (by omega)) nin0)
  have Y91_a7 := Y82_a7.keep K87 (ninS (own_neL (by omega)) nin0)
  have Y92_a11 := Y83_a11.keep K87 (ninS (own_neL (by omega)) nin0)
  have Y93_a16 := Y84_a16.keep K87 (ninS (own_neL (by omega)) nin0)
  have Y94_a22 := Y85_a22.keep K87 (ninS (own_neL (by omega)) nin0)
  have Y95_a29 := Y86_a29.keep K87 (ninS (own_neL (by omega)) nin0)
  show OwnDone p e below _ (T87.setTop (mkF m 83 #[.val (.int p1), .val (.int p2), .val (.int p3), .val (.int p4), .val (.int p5), .val (.ref a1), .val (.ref a2), .val (.ref a4), .val (.ref a7), .val (.ref a11), .val (.ref a16), .val (.ref a22), .val (.ref a29), .unset, .unset, .unset, .unset] [(.ref a69)]))
  refine OwnDone.go (A := (T87.setTop (mkF m 89 #[.val (.int p1), .val (.int p2), .val (.int p3), .val (.int p4), .val (.int p5), .val (.ref a1), .val (.ref a2), .val (.ref a4), .val (.ref a7), .val (.ref a11), .val (.ref a16), .val (.ref a22), .val (.ref a29), .unset, .unset, .unset, .unset] [(.int (p5 + (1 : Int32))), (.int (2 : Int32)), (.ref a69), (.ref a69)]))) (fun tQ kQ => ?_) ?_
  · refine XS.dup P87.here hx rfl (hb hby at_83) rfl rfl ?_
    show Steps p.tables e below (T87.setTop (mkF m 84 #[.val (.int p1), .val (.int p2), .val (.int p3), .val (.int p4), .val (.int p5), .val (.ref a1), .val (.ref a2), .val (.ref a4), .val (.ref a7), .val (.ref a11), .val (.ref a16), .val (.ref a22), .val (.ref a29), .unset, .unset, .unset, .unset] [(.ref a69), (.ref a69)])) _
    refine XS.iconst P87.here hx rfl (hb hby at_84) ?_
    show Steps p.tables e below (T87.setTop (mkF m 85 #[.val (.int p1), .val (.int p2), .val (.int p3), .val (.int p4), .val (.int p5), .val (.ref a1), .val (.ref a2), .val (.ref a4), .val (.ref a7), .val (.ref a11), .val (.ref a16), .val (.ref a22), .val (.ref a29), .unset, .unset, .unset, .unset] [(.int (2 : Int32)), (.ref a69), (.ref a69)])) _
    refine XS.iload P87.here hx rfl (hb hby at_85) rfl ?_
    show Steps p.tables e below (T87.setTop (mkF m 87 #[.val (.int p1), .val (.int p2), .val (.int p3), .val (.int p4), .val (.int p5), .val (.ref a1), .val (.ref a2), .val (.ref a4), .val (.ref a7), .val (.ref a11), .val (.ref a16), .val (.ref a22), .val (.ref a29), .unset, .unset, .unset, .unset] [(.int p5), (.int (2 : Int32)), (.ref a69), (.ref a69)])) _
    refine XS.iconst P87.here hx rfl (hb hby at_87) ?_
    show Steps p.tables e below (T87.setTop (mkF m 88 #[.val (.int p1), .val (.int p2), .val (.int p3), .val (.int p4), .val (.int p5), .val (.ref a1), .val (.ref a2), .val (.ref a4), .val (.ref a7), .val (.ref a11), .val (.ref a16), .val (.ref a22), .val (.ref a29), .unset, .unset, .unset, .unset] [(.int (1 : Int32)), (.int p5), (.int (2 : Int32)), (.ref a69), (.ref a69)])) _
    refine XS.iadd P87.here hx rfl (hb hby at_88) rfl ?_
    show Steps p.tables e below (T87.setTop (mkF m 89 #[.val (.int p1), .val (.int p2), .val (.int p3), .val (.int p4), .val (.int p5), .val (.ref a1), .val (.ref a2), .val (.ref a4), .val (.ref a7), .val (.ref a11), .val (.ref a16), .val (.ref a22), .val (.ref a29), .unset, .unset, .unset, .unset] [(.int (p5 + (1 : Int32))), (.int (2 : Int32)), (.ref a69), (.ref a69)])) _
    exact kQ
  show OwnDone p e below _ (T87.setTop (mkF m 89 #[.val (.int p1), .val (.int p2), .val (.int p3), .val (.int p4), .val (.int p5), .val (.ref a1), .val (.ref a2), .val (.ref a4), .val (.ref a7), .val (.ref a11), .val (.ref a16), .val (.ref a22), .val (.ref a29), .unset, .unset, .unset, .unset] [(.int (p5 + (1 : Int32))), (.int (2 : Int32)), (.ref a69), (.ref a69)]))
  refine own_iastore C P87 Y87 (by decide) (show ((2 : Int32) : Int32).toNatClampNeg < 4 from by decide) (Or.inr ge_a69) at_89 (vs' := [(.int p5), (.int (p5 ^^^ (1 : Int32))), (.int (p5 + (1 : Int32))), (.int (0 : Int32))]) rfl (fun T96 h96 P96 K96 Y96 => ?_)
  have Y97_a1 := Y88_a1.keep K96 (ninS (own_neL (by omega)) nin0)
  have Y98_a2 := Y89_a2.keep K96 (ninS (own_neL (by omega)) nin0)
  have Y99_a4 := Y90_a4.keep K96 (ninS (own_neL (by omega)) nin0)
  have Y100_a7 := Y91_a7.keep K96 (ninS (own_neL (by omega)) nin0)
  have Y101_a11 := Y92_a11.keep K96 (ninS (own_neL (by omega)) nin0)
  have Y102_a16 := Y93_a16.keep K96 (ninS (own_neL (by omega)) nin0)
  have Y103_a22 := Y94_a22.keep K96 (ninS (own_neL (by omega)) nin0)
  have Y104_a29 := Y95_a29.keep K96 (ninS (own_neL (by omega)) nin0)
  show OwnDone p e below _ (T96.setTop (mkF m 90 #[.val (.int p1), .val (.int p2), .val (.int p3), .val (.int p4), .val (.int p5), .val (.ref a1), .val (.ref a2), .val (.ref a4), .val (.ref a7), .val (.ref a11), .val (.ref a16), .val (.ref a22), .val (.ref a29), .unset, .unset, .unset, .unset] [(.ref a69)]))
  refine OwnDone.go (A := (T96.setTop (mkF m 93 #[.val (.int p1), .val (.int p2), .val (.int p3), .val (.int p4), .val (.int p5), .val (.ref a1), .val (.ref a2), .val (.ref a4), .val (.ref a7), .val (.ref a11), .val (.ref a16), .val (.ref a22), .val (.ref a29), .unset, .unset, .unset, .unset] [(.int p2), (.int (3 : Int32)), (.ref a69), (.ref a69)]))) (fun tQ kQ => ?_) ?_
  · refine XS.dup P96.here hx rfl (hb hby at_90) rfl rfl ?_
    show Steps p.tables e below (T96.setTop (mkF m 91 #[.val (.int p1), .val (.int p2), .val (.int p3), .val (.int p4), .val (.int p5), .val (.ref a1), .val (.ref a2), .val (.ref a4), .val (.ref a7), .val (.ref a11), .val (.ref a16), .val (.ref a22), .val (.ref a29), .unset, .unset, .unset, .unset] [(.ref a69), (.ref a69)])) _
    refine XS.iconst P96.here hx rfl (hb hby at_91) ?_
    show Steps p.tables e below (T96.setTop (mkF m 92 #[.val (.int p1), .val (.int p2), .val (.int p3), .val (.int p4), .val (.int p5), .val (.ref a1), .val (.ref a2), .val (.ref a4), .val (.ref a7), .val (.ref a11), .val (.ref a16), .val (.ref a22), .val (.ref a29), .unset, .unset, .unset, .unset] [(.int (3 : Int32)), (.ref a69), (.ref a69)])) _
    refine XS.iloadN P96.here hx rfl (hb hby at_92) rfl ?_
    show Steps p.tables e below (T96.setTop (mkF m 93 #[.val (.int p1), .val (.int p2), .val (.int p3), .val (.int p4), .val (.int p5), .val (.ref a1), .val (.ref a2), .val (.ref a4), .val (.ref a7), .val (.ref a11), .val (.ref a16), .val (.ref a22), .val (.ref a29), .unset, .unset, .unset, .unset] [(.int p2), (.int (3 : Int32)), (.ref a69), (.ref a69)])) _
    exact kQ
  show OwnDone p e below _ (T96.setTop (mkF m 93 #[.val (.int p1), .val (.int p2), .val (.int p3), .val (.int p4), .val (.int p5), .val (.ref a1), .val (.ref a2), .val (.ref a4), .val (.ref a7), .val (.ref a11), .val (.ref a16), .val (.ref a22), .val (.ref a29), .unset, .unset, .unset, .unset] [(.int p2), (.int (3 : Int32)), (.ref a69), (.ref a69)]))
  refine own_iastore C P96 Y96 (by decide) (show ((3 : Int32) : Int32).toNatClampNeg < 4 from by decide) (Or.inr ge_a69) at_93 (vs' := [(.int p5), (.int (p5 ^^^ (1 : Int32))), (.int (p5 + (1 : Int32))), (.int p2)]) rfl (fun T105 h105 P105 K105 Y105 => ?_)
  have Y106_a1 := Y97_a1.keep K105 (ninS (own_neL (by omega)) nin0)
  have Y107_a2 := Y98_a2.keep K105 (ninS (own_neL (by omega)) nin0)
  have Y108_a4 := Y99_a4.keep K105 (ninS (own_neL (by omega)) nin0)
  have Y109_a7 := Y100_a7.keep K105 (ninS (own_neL (by omega)) nin0)
  have Y110_a11 := Y101_a11.keep K105 (ninS (own_neL (by omega)) nin0)
  have Y111_a16 := Y102_a16.keep K105 (ninS (own_neL (by omega)) nin0)
  have Y112_a22 := Y103_a22.keep K105 (ninS (own_neL (by omega)) nin0)
  have Y113_a29 := Y104_a29.keep K105 (ninS (own_neL (by omega)) nin0)
  show OwnDone p e below _ (T105.setTop (mkF m 94 #[.val (.int p1), .val (.int p2), .val (.int p3), .val (.int p4), .val (.int p5), .val (.ref a1), .val (.ref a2), .val (.ref a4), .val (.ref a7), .val (.ref a11), .val (.ref a16), .val (.ref a22), .val (.ref a29), .unset, .unset, .unset, .unset] [(.ref a69)]))
  refine OwnDone.go (A := (T105.setTop (mkF m 97 #[.val (.int p1), .val (.int p2), .val (.int p3), .val (.int p4), .val (.int p5), .val (.ref a1), .val (.ref a2), .val (.ref a4), .val (.ref a7), .val (.ref a11), .val (.ref a16), .val (.ref a22), .val (.ref a29), .val (.ref a69), .unset, .unset, .unset] [(.int (2 : Int32))]))) (fun tQ kQ => ?_) ?_
  · refine XS.astore P105.here hx rfl (hb hby at_94) rfl rfl (l' := #[.val (.int p1), .val (.int p2), .val (.int p3), .val (.int p4), .val (.int p5), .val (.ref a1), .val (.ref a2), .val (.ref a4), .val (.ref a7), .val (.ref a11), .val (.ref a16), .val (.ref a22), .val (.ref a29), .val (.ref a69), .unset, .unset, .unset]) rfl ?_
    show Steps p.tables e below (T105.setTop (mkF m 96 #[.val (.int p1), .val (.int p2), .val (.int p3), .val (.int p4), .val (.int p5), .val (.ref a1), .val (.ref a2), .val (.ref a4), .val (.ref a7), .val (.ref a11), .val (.ref a16), .val (.ref a22), .val (.ref a29), .val (.ref a69), .unset, .unset, .unset] [])) _
    refine XS.iconst P105.here hx rfl (hb hby at_96) ?_
    show Steps p.tables e below (T105.setTop (mkF m 97 #[.val (.int p1), .val (.int p2), .val (.int p3), .val (.int p4), .val (.int p5), .val (.ref a1), .val (.ref a2), .val (.ref a4), .val (.ref a7), .val (.ref a11), .val (.ref a16), .val (.ref a22), .val (.ref a29), .val (.ref a69), .unset, .unset, .unset] [(.int (2 : Int32))])) _
    exact kQ
  show OwnDone p e below _ (T105.setTop (mkF m 97 #[.val (.int p1), .val (.int p2), .val (.int p3), .val (.int p4), .val (.int p5), .val (.ref a1), .val (.ref a2), .val (.ref a4), .val (.ref a7), .val (.ref a11), .val (.ref a16), .val (.ref a22), .val (.ref a29), .val (.ref a69), .unset, .unset, .unset] [(.int (2 : Int32))]))
  refine own_newR (CC := "java/lang/Object") (n := (2 : Int32)) (cap := 2) (vs := [.null, .null]) C P105 (hw _ (List.mem_of_getElem? (i := 0) rfl)) (hw _ (List.mem_of_getElem? (i := 1) rfl)) at_97 (by decide) (by decide) (by decide) (by decide +kernel) rfl (by decide) (by decide) (fun T114 h114 a114 k114 ga114 la114 P114 K114 Y114 N114 V114 => ?_)
  have ge_a114 : h0.size ≤ a114 := by rw [ga114]; exact P105.keep.1
  have lt_a69_a114 : @LT.lt Nat _ a69 a114 := by rw [ga114]; exact Y105.lt
  have Y115_a1 := Y106_a1.keep K114 nin0
  have Y116_a2 := Y107_a2.keep K114 nin0
  have Y117_a4 := Y108_a4.keep K114 nin0
  have Y118_a7 := Y109_a7.keep K114 nin0
  have Y119_a11 := Y110_a11.keep K114 nin0
  have Y120_a16 := Y111_a16.keep K114 nin0
  have Y121_a22 := Y112_a22.keep K114 nin0
  have Y122_a29 := Y113_a29.keep K114 nin0
  have Y123_a69 := Y105.keep K114 nin0
  show OwnDone p e below _ (T114.setTop (mkF m 100 #[.val (.int p1), .val (.int p2), .val (.int p3), .val (.int p4), .val (.int p5), .val (.ref a1), .val (.ref a2), .val (.ref a4), .val (.ref a7), .val (.ref a11), .val (.ref a16), .val (.ref a22), .val (.ref a29), .val (.ref a69), .unset, .unset, .unset] [(.ref a114)]))
  refine OwnDone.go (A := (T114.setTop (mkF m 102 #[.val (.int p1), .val (.int p2), .val (.int p3), .val (.int p4), .val (.int p5), .val (.ref a1), .val (.ref a2), .val (.ref a4), .val (.ref a7), .val (.ref a11), .val (.ref a16), .val (.ref a22), .val (.ref a29), .val (.ref a69), .val (.ref a114), .unset, .unset] []))) (fun tQ kQ => ?_) ?_
  · refine XS.astore P114.here hx rfl (hb hby at_100) rfl rfl (l' := #[.val (.int p1), .val (.int p2), .val (.int p3), .val (.int p4), .val (.int p5), .val (.ref a1), .val (.ref a2), .val (.ref a4), .val (.ref a7), .val (.ref a11), .val (.ref a16), .val (.ref a22), .val (.ref a29), .val (.ref a69), .val (.ref a114), .unset, .unset]) rfl ?_
    show Steps p.tables e below (T114.setTop (mkF m 102 #[.val (.int p1), .val (.int p2), .val (.int p3), .val (.int p4), .val (.int p5), .val (.ref a1), .val (.ref a2), .val (.ref a4), .val (.ref a7), .val (.ref a11), .val (.ref a16), .val (.ref a22), .val (.ref a29), .val (.ref a69), .val (.ref a114), .unset, .unset] [])) _
    exact kQ
  show OwnDone p e below _ (T114.setTop (mkF m 102 #[.val (.int p1), .val (.int p2), .val (.int p3), .val (.int p4), .val (.int p5), .val (.ref a1), .val (.ref a2), .val (.ref a4), .val (.ref a7), .val (.ref a11), .val (.ref a16), .val (.ref a22), .val (.ref a29), .val (.ref a69), .val (.ref a114), .unset, .unset] []))
  refine own_new (vs := [.null, .null, .null, .null, .null, .null, (.int (0 : Int32)), (.int (0 : Int32)), (.int (0 : Int32)), (.int (0 : Int32)), .null, .null]) C P114 (hw _ (List.mem_of_getElem? (i := 6) rfl)) (hw _ (List.mem_of_getElem? (i := 7) rfl)) (hw _ (List.mem_of_getElem? (i := 8) rfl)) (own_laid0 hw) (by decide +kernel) at_102 (by decide) (by decide) (fun T124 h124 a124 ga124 la124 P124 K124 O124 => ?_)
  have ge_a124 : h0.size ≤ a124 := by rw [ga124]; exact P114.keep.1
  have lt_a114_a124 : @LT.lt Nat _ a114 a124 := by rw [ga124]; exact Y114.lt
  have Y125_a1 := Y115_a1.keep K124 nin0
  have Y126_a2 := Y116_a2.keep K124 nin0
  have Y127_a4 := Y117_a4.keep K124 nin0
  have Y128_a7 := Y118_a7.keep K124 nin0
  have Y129_a11 := Y119_a11.keep K124 nin0
  have Y130_a16 := Y120_a16.keep K124 nin0
  have Y131_a22 := Y121_a22.keep K124 nin0
  have Y132_a29 := Y122_a29.keep K124 nin0
  have Y133_a69 := Y123_a69.keep K124 nin0
  have Y134_a114 := Y114.keep K124 nin0
  show OwnDone p e below _ (T124.setTop (mkF m 105 #[.val (.int p1), .val (.int p2), .val (.int p3), .val (.int p4), .val (.int p5), .val (.ref a1), .val (.ref a2), .val (.ref a4), .val (.ref a7), .val (.ref a11), .val (.ref a16), .val (.ref a22), .val (.ref a29), .val (.ref a69), .val (.ref a114), .unset, .unset] [(.ref a124)]))
  refine OwnDone.go (A := (T124.setTop (mkF m 109 #[.val (.int p1), .val (.int p2), .val (.int p3), .val (.int p4), .val (.int p5), .val (.ref a1), .val (.ref a2), .val (.ref a4), .val (.ref a7), .val (.ref a11), .val (.ref a16), .val (.ref a22), .val (.ref a29), .val (.ref a69), .val (.ref a114), .unset, .unset] [(.int (p1 &&& (1 : Int32))), (.ref a124), (.ref a124)]))) (fun tQ kQ => ?_) ?_
  · refine XS.dup P124.here hx rfl (hb hby at_105) rfl rfl ?_
    show Steps p.tables e below (T124.setTop (mkF m 106 #[.val (.int p1), .val (.int p2), .val (.int p3), .val (.int p4), .val (.int p5), .val (.ref a1), .val (.ref a2), .val (.ref a4), .val (.ref a7), .val (.ref a11), .val (.ref a16), .val (.ref a22), .val (.ref a29), .val (.ref a69), .val (.ref a114), .unset, .unset] [(.ref a124), (.ref a124)])) _
    refine XS.iloadN P124.here hx rfl (hb hby at_106) rfl ?_
    show Steps p.tables e below (T124.setTop (mkF m 107 #[.val (.int p1), .val (.int p2), .val (.int p3), .val (.int p4), .val (.int p5), .val (.ref a1), .val (.ref a2), .val (.ref a4), .val (.ref a7), .val (.ref a11), .val (.ref a16), .val (.ref a22), .val (.ref a29), .val (.ref a69), .val (.ref a114), .unset, .unset] [(.int p1), (.ref a124), (.ref a124)])) _
    refine XS.iconst P124.here hx rfl (hb hby at_107) ?_
    show Steps p.tables e below (T124.setTop (mkF m 108 #[.val (.int p1), .val (.int p2), .val (.int p3), .val (.int p4), .val (.int p5), .val (.ref a1), .val (.ref a2), .val (.ref a4), .val (.ref a7), .val (.ref a11), .val (.ref a16), .val (.ref a22), .val (.ref a29), .val (.ref a69), .val (.ref a114), .unset, .unset] [(.int (1 : Int32)), (.int p1), (.ref a124), (.ref a124)])) _
    refine XS.iand P124.here hx rfl (hb hby at_108) rfl ?_
    show Steps p.tables e below (T124.setTop (mkF m 109 #[.val (.int p1), .val (.int p2), .val (.int p3), .val (.int p4), .val (.int p5), .val (.ref a1), .val (.ref a2), .val (.ref a4), .val (.ref a7), .val (.ref a11), .val (.ref a16), .val (.ref a22), .val (.ref a29), .val (.ref a69), .val (.ref a114), .unset, .unset] [(.int (p1 &&& (1 : Int32))), (.ref a124), (.ref a124)])) _
    exact kQ
  show OwnDone p e below _ (T124.setTop (mkF m 109 #[.val (.int p1), .val (.int p2), .val (.int p3), .val (.int p4), .val (.int p5), .val (.ref a1), .val (.ref a2), .val (.ref a4), .val (.ref a7), .val (.ref a11), .val (.ref a16), .val (.ref a22), .val (.ref a29), .val (.ref a69), .val (.ref a114), .unset, .unset] [(.int (p1 &&& (1 : Int32))), (.ref a124), (.ref a124)]))
  suffices K135 : ∀ zz135 : Value, zz135 = (.int vd) → OwnDone p e below _ (T124.setTop (mkF m 117 #[.val (.int p1), .val (.int p2), .val (.int p3), .val (.int p4), .val (.int p5), .val (.ref a1), .val (.ref a2), .val (.ref a4), .val (.ref a7), .val (.ref a11), .val (.ref a16), .val (.ref a22), .val (.ref a29), .val (.ref a69), .val (.ref a114), .unset, .unset] [zz135, (.ref a124), (.ref a124)])) from by
    by_cases hc109 : (p1 &&& (1 : Int32)) = (0 : Int32)
    · refine OwnDone.go (A := (T124.setTop (mkF m 116 #[.val (.int p1), .val (.int p2), .val (.int p3), .val (.int p4), .val (.int p5), .val (.ref a1), .val (.ref a2), .val (.ref a4), .val (.ref a7), .val (.ref a11), .val (.ref a16), .val (.ref a22), .val (.ref a29), .val (.ref a69), .val (.ref a114), .unset, .unset] [(.ref a124), (.ref a124)]))) (fun tQ kQ => XS.ifYes P124.here hx rfl (pc0 := 109) (pc' := 116) rfl (hb hby at_109) rfl (XT.i0_eq_t hc109) (by decide) (by decide) kQ) ?_
      show OwnDone p e below _ (T124.setTop (mkF m 116 #[.val (.int p1), .val (.int p2), .val (.int p3), .val (.int p4), .val (.int p5), .val (.ref a1), .val (.ref a2), .val (.ref a4), .val (.ref a7), .val (.ref a11), .val (.ref a16), .val (.ref a22), .val (.ref a29), .val (.ref a69), .val (.ref a114), .unset, .unset] [(.ref a124), (.ref a124)]))
      refine OwnDone.go (A := (T124.setTop (mkF m 117 #[.val (.int p1), .val (.int p2), .val (.int p3), .val (.int p4), .val (.int p5), .val (.ref a1), .val (.ref a2), .val (.ref a4), .val (.ref a7), .val (.ref a11), .val (.ref a16), .val (.ref a22), .val (.ref a29), .val (.ref a69), .val (.ref a114), .unset, .unset] [(.int (0 : Int32)), (.ref a124), (.ref a124)]))) (fun tQ kQ => ?_) ?_
      · refine XS.iconst P124.here hx rfl (hb hby at_116) ?_
        show Steps p.tables e below (T124.setTop (mkF m 117 #[.val (.int p1), .val (.int p2), .val (.int p3), .val (.int p4), .val (.int p5), .val (.ref a1), .val (.ref a2), .val (.ref a4), .val (.ref a7), .val (.ref a11), .val (.ref a16), .val (.ref a22), .val (.ref a29), .val (.ref a69), .val (.ref a114), .unset, .unset] [(.int (0 : Int32)), (.ref a124), (.ref a124)])) _
        exact kQ
      show OwnDone p e below _ (T124.setTop (mkF m 117 #[.val (.int p1), .val (.int p2), .val (.int p3), .val (.int p4), .val (.int p5), .val (.ref a1), .val (.ref a2), .val (.ref a4), .val (.ref a7), .val (.ref a11), .val (.ref a16), .val (.ref a22), .val (.ref a29), .val (.ref a69), .val (.ref a114), .unset, .unset] [(.int (0 : Int32)), (.ref a124), (.ref a124)]))
      exact K135 _ (show ((.int vd) : Value) = (.int (0 : Int32)) from by rw [e_vd]; simp only [hc109, if_true, if_false]).symm
    · refine OwnDone.go (A := (T124.setTop (mkF m 112 #[.val (.int p1), .val (.int p2), .val (.int p3), .val (.int p4), .val (.int p5), .val (.ref a1), .val (.ref a2), .val (.ref a4), .val (.ref a7), .val (.ref a11), .val (.ref a16), .val (.ref a22), .val (.ref a29), .val (.ref a69), .val (.ref a114), .unset, .unset] [(.ref a124), (.ref a124)]))) (fun tQ kQ => XS.ifNo P124.here hx rfl (hb hby at_109) rfl (XT.i0_eq_f hc109) kQ) ?_
      show OwnDone p e below _ (T124.setTop (mkF m 112 #[.val (.int p1), .val (.int p2), .val (.int p3), .val (.int p4), .val (.int p5), .val (.ref a1), .val (.ref a2), .val (.ref a4), .val (.ref a7), .val (.ref a11), .val (.ref a16), .val (.ref a22), .val (.ref a29), .val (.ref a69), .val (.ref a114), .unset, .unset] [(.ref a124), (.ref a124)]))
      refine OwnDone.go (A := (T124.setTop (mkF m 117 #[.val (.int p1), .val (.int p2), .val (.int p3), .val (.int p4), .val (.int p5), .val (.ref a1), .val (.ref a2), .val (.ref a4), .val (.ref a7), .val (.ref a11), .val (.ref a16), .val (.ref a22), .val (.ref a29), .val (.ref a69), .val (.ref a114), .unset, .unset] [(.int (1 : Int32)), (.ref a124), (.ref a124)]))) (fun tQ kQ => ?_) ?_
      · refine XS.iconst P124.here hx rfl (hb hby at_112) ?_
        show Steps p.tables e below (T124.setTop (mkF m 113 #[.val (.int p1), .val (.int p2), .val (.int p3), .val (.int p4), .val (.int p5), .val (.ref a1), .val (.ref a2), .val (.ref a4), .val (.ref a7), .val (.ref a11), .val (.ref a16), .val (.ref a22), .val (.ref a29), .val (.ref a69), .val (.ref a114), .unset, .unset] [(.int (1 : Int32)), (.ref a124), (.ref a124)])) _
        refine XS.goto P124.here hx rfl (pc0 := 113) (pc' := 117) rfl (hb hby at_113) (by decide) (by decide) ?_
        show Steps p.tables e below (T124.setTop (mkF m 117 #[.val (.int p1), .val (.int p2), .val (.int p3), .val (.int p4), .val (.int p5), .val (.ref a1), .val (.ref a2), .val (.ref a4), .val (.ref a7), .val (.ref a11), .val (.ref a16), .val (.ref a22), .val (.ref a29), .val (.ref a69), .val (.ref a114), .unset, .unset] [(.int (1 : Int32)), (.ref a124), (.ref a124)])) _
        exact kQ
      show OwnDone p e below _ (T124.setTop (mkF m 117 #[.val (.int p1), .val (.int p2), .val (.int p3), .val (.int p4), .val (.int p5), .val (.ref a1), .val (.ref a2), .val (.ref a4), .val (.ref a7), .val (.ref a11), .val (.ref a16), .val (.ref a22), .val (.ref a29), .val (.ref a69), .val (.ref a114), .unset, .unset] [(.int (1 : Int32)), (.ref a124), (.ref a124)]))
      exact K135 _ (show ((.int vd) : Value) = (.int (1 : Int32)) from by rw [e_vd]; simp only [hc109, if_true, if_false]).symm
  intro zz135 hzz135
  subst hzz135
  show OwnDone p e below _ (T124.setTop (mkF m 117 #[.val (.int p1), .val (.int p2), .val (.int p3), .val (.int p4), .val (.int p5), .val (.ref a1), .val (.ref a2), .val (.ref a4), .val (.ref a7), .val (.ref a11), .val (.ref a16), .val (.ref a22), .val (.ref a29), .val (.ref a69), .val (.ref a114), .unset, .unset] [(.int vd), (.ref a124), (.ref a124)]))
  refine own_callI (y := (⟨"com/example/tidx/tidx/index/Run", "<init>", "(Z)V"⟩ : MethodName)) C P124 rfl (hw _ (List.mem_of_getElem? (i := 9) rfl)) (hw _ (List.mem_of_getElem? (i := 10) rfl)) (hw _ (List.mem_of_getElem? (i := 8) rfl)) (hw _ (List.mem_of_getElem? (i := 11) rfl)) (by decide) (rminit l Z a0 hw a124 vd h124 P124.old (Nat.le_trans hE.1 ge_a124) b_vd O124) (as := [(.int vd)]) (rest := [(.ref a124)]) pd_7 rfl rfl (wd := 1) rfl rfl at_117 (allS (Or.inr ge_a124) all0) (by decide) (by decide) (by decide) (by decide) (fun T136 h136 v136 P136 K136 hQ136 => ?_)
  obtain ⟨rfl, aR, aV, aF, aT, aO, aW, kR, kV, kF, kT, kO, kW, Ob136, YaR136, YaV136, YaF136, YaT136, YaO136, YaW136, c0, c1, c2, c3, c4, c5, NO, NW, VR, VV, VW, gR⟩ := hQ136
  have Y137_a1 := Y125_a1.keep K136 (ninS (own_neL (by omega)) nin0)
  have Y138_a2 := Y126_a2.keep K136 (ninS (own_neL (by omega)) nin0)
  have Y139_a4 := Y127_a4.keep K136 (ninS (own_neL (by omega)) nin0)
  have Y140_a7 := Y128_a7.keep K136 (ninS (own_neL (by omega)) nin0)
  have Y141_a11 := Y129_a11.keep K136 (ninS (own_neL (by omega)) nin0)
  have Y142_a16 := Y130_a16.keep K136 (ninS (own_neL (by omega)) nin0)
  have Y143_a22 := Y131_a22.keep K136 (ninS (own_neL (by omega)) nin0)
  have Y144_a29 := Y132_a29.keep K136 (ninS (own_neL (by omega)) nin0)
  have Y145_a69 := Y133_a69.keep K136 (ninS (own_neL (by omega)) nin0)
  have Y146_a114 := Y134_a114.keep K136 (ninS (own_neL (by omega)) nin0)
  show OwnDone p e below _ (T136.setTop (mkF m 120 #[.val (.int p1), .val (.int p2), .val (.int p3), .val (.int p4), .val (.int p5), .val (.ref a1), .val (.ref a2), .val (.ref a4), .val (.ref a7), .val (.ref a11), .val (.ref a16), .val (.ref a22), .val (.ref a29), .val (.ref a69), .val (.ref a114), .unset, .unset] [(.ref a124)]))
  refine OwnDone.go (A := (T136.setTop (mkF m 124 #[.val (.int p1), .val (.int p2), .val (.int p3), .val (.int p4), .val (.int p5), .val (.ref a1), .val (.ref a2), .val (.ref a4), .val (.ref a7), .val (.ref a11), .val (.ref a16), .val (.ref a22), .val (.ref a29), .val (.ref a69), .val (.ref a114), .val (.ref a124), .unset] [(.ref a124)]))) (fun tQ kQ => ?_) ?_
  · refine XS.astore P136.here hx rfl (hb hby at_120) rfl rfl (l' := #[.val (.int p1), .val (.int p2), .val (.int p3), .val (.int p4), .val (.int p5), .val (.ref a1), .val (.ref a2), .val (.ref a4), .val (.ref a7), .val (.ref a11), .val (.ref a16), .val (.ref a22), .val (.ref a29), .val (.ref a69), .val (.ref a114), .val (.ref a124), .unset]) rfl ?_
    show Steps p.tables e below (T136.setTop (mkF m 122 #[.val (.int p1), .val (.int p2), .val (.int p3), .val (.int p4), .val (.int p5), .val (.ref a1), .val (.ref a2), .val (.ref a4), .val (.ref a7), .val (.ref a11), .val (.ref a16), .val (.ref a22), .val (.ref a29), .val (.ref a69), .val (.ref a114), .val (.ref a124), .unset] [])) _
    refine XS.aload P136.here hx rfl (hb hby at_122) rfl rfl ?_
    show Steps p.tables e below (T136.setTop (mkF m 124 #[.val (.int p1), .val (.int p2), .val (.int p3), .val (.int p4), .val (.int p5), .val (.ref a1), .val (.ref a2), .val (.ref a4), .val (.ref a7), .val (.ref a11), .val (.ref a16), .val (.ref a22), .val (.ref a29), .val (.ref a69), .val (.ref a114), .val (.ref a124), .unset] [(.ref a124)])) _
    exact kQ
  show OwnDone p e below _ (T136.setTop (mkF m 124 #[.val (.int p1), .val (.int p2), .val (.int p3), .val (.int p4), .val (.int p5), .val (.ref a1), .val (.ref a2), .val (.ref a4), .val (.ref a7), .val (.ref a11), .val (.ref a16), .val (.ref a22), .val (.ref a29), .val (.ref a69), .val (.ref a114), .val (.ref a124), .unset] [(.ref a124)]))
  refine own_callV (y := (⟨"com/example/tidx/tidx/index/Run", "first", "()[Ljava/lang/Object;"⟩ : MethodName)) (z := (⟨"com/example/tidx/tidx/index/Run", "first", "()[Ljava/lang/Object;"⟩ : MethodName)) (CC := "com/example/tidx/tidx/index/Run") C P136 Ob136.1 (hw _ (List.mem_of_getElem? (i := 34) rfl)) (hw _ (List.mem_of_getElem? (i := 35) rfl)) (hw _ (List.mem_of_getElem? (i := 37) rfl)) (hw _ (List.mem_of_getElem? (i := 37) rfl)) (hw _ (List.mem_of_getElem? (i := 36) rfl)) (hw _ (List.mem_of_getElem? (i := 8) rfl)) (hw _ (List.mem_of_getElem? (i := 38) rfl)) (by decide) (rmfa l Z a0 hw a124 aR aV aF aT aO aW vd (0 : Int32) (0 : Int32) h136 P136.old Ob136) (as := []) (rest := []) pd_4 rfl rfl (wd := 0) rfl rfl at_124 all0 (by decide) (by decide) (by decide) (by decide) (fun T147 h147 v147 P147 K147 hQ147 => ?_)
  obtain ⟨rfl, rfl⟩ := hQ147
  show OwnDone p e below _ (T147.setTop (mkF m 127 #[.val (.int p1), .val (.int p2), .val (.int p3), .val (.int p4), .val (.int p5), .val (.ref a1), .val (.ref a2), .val (.ref a4), .val (.ref a7), .val (.ref a11), .val (.ref a16), .val (.ref a22), .val (.ref a29), .val (.ref a69), .val (.ref a114), .val (.ref a124), .unset] [.null]))
  refine OwnDone.go (A := (T147.setTop (mkF m 130 #[.val (.int p1), .val (.int p2), .val (.int p3), .val (.int p4), .val (.int p5), .val (.ref a1), .val (.ref a2), .val (.ref a4), .val (.ref a7), .val (.ref a11), .val (.ref a16), .val (.ref a22), .val (.ref a29), .val (.ref a69), .val (.ref a114), .val (.ref a124), .unset] []))) (fun tQ kQ => XT.ifnonnullNo P147.here hx rfl (hb hby at_127) rfl kQ) ?_
  show OwnDone p e below _ (T147.setTop (mkF m 130 #[.val (.int p1), .val (.int p2), .val (.int p3), .val (.int p4), .val (.int p5), .val (.ref a1), .val (.ref a2), .val (.ref a4), .val (.ref a7), .val (.ref a11), .val (.ref a16), .val (.ref a22), .val (.ref a29), .val (.ref a69), .val (.ref a114), .val (.ref a124), .unset] []))
  refine OwnDone.go (A := (T147.setTop (mkF m 137 #[.val (.int p1), .val (.int p2), .val (.int p3), .val (.int p4), .val (.int p5), .val (.ref a1), .val (.ref a2), .val (.ref a4), .val (.ref a7), .val (.ref a11), .val (.ref a16), .val (.ref a22), .val (.ref a29), .val (.ref a69), .val (.ref a114), .val (.ref a124), .val (.int (1 : Int32))] []))) (fun tQ kQ => ?_) ?_
  · refine XS.iconst P147.here hx rfl (hb hby at_130) ?_
    show Steps p.tables e below (T147.setTop (mkF m 131 #[.val (.int p1), .val (.int p2), .val (.int p3), .val (.int p4), .val (.int p5), .val (.ref a1), .val (.ref a2), .val (.ref a4), .val (.ref a7), .val (.ref a11), .val (.ref a16), .val (.ref a22), .val (.ref a29), .val (.ref a69), .val (.ref a114), .val (.ref a124), .unset] [(.int (1 : Int32))])) _
    refine XS.goto P147.here hx rfl (pc0 := 131) (pc' := 135) rfl (hb hby at_131) (by decide) (by decide) ?_
    show Steps p.tables e below (T147.setTop (mkF m 135 #[.val (.int p1), .val (.int p2), .val (.int p3), .val (.int p4), .val (.int p5), .val (.ref a1), .val (.ref a2), .val (.ref a4), .val (.ref a7), .val (.ref a11), .val (.ref a16), .val (.ref a22), .val (.ref a29), .val (.ref a69), .val (.ref a114), .val (.ref a124), .unset] [(.int (1 : Int32))])) _
    refine XS.istore P147.here hx rfl (hb hby at_135) rfl (l' := #[.val (.int p1), .val (.int p2), .val (.int p3), .val (.int p4), .val (.int p5), .val (.ref a1), .val (.ref a2), .val (.ref a4), .val (.ref a7), .val (.ref a11), .val (.ref a16), .val (.ref a22), .val (.ref a29), .val (.ref a69), .val (.ref a114), .val (.ref a124), .val (.int (1 : Int32))]) rfl ?_
    show Steps p.tables e below (T147.setTop (mkF m 137 #[.val (.int p1), .val (.int p2), .val (.int p3), .val (.int p4), .val (.int p5), .val (.ref a1), .val (.ref a2), .val (.ref a4), .val (.ref a7), .val (.ref a11), .val (.ref a16), .val (.ref a22), .val (.ref a29), .val (.ref a69), .val (.ref a114), .val (.ref a124), .val (.int (1 : Int32))] [])) _
    exact kQ
  show OwnDone p e below _ (T147.setTop (mkF m 137 #[.val (.int p1), .val (.int p2), .val (.int p3), .val (.int p4), .val (.int p5), .val (.ref a1), .val (.ref a2), .val (.ref a4), .val (.ref a7), .val (.ref a11), .val (.ref a16), .val (.ref a22), .val (.ref a29), .val (.ref a69), .val (.ref a114), .val (.ref a124), .val (.int (1 : Int32))] []))
  have Ien := Y144_a29.ins N29
  have ge_aR : h0.size ≤ aR := Nat.le_trans (Nat.le_of_lt_succ (Nat.lt_succ_of_le ge_a124)) (Nat.le_of_lt c0)
  have ge_aV : h0.size ≤ aV := by omega
  have ge_aF : h0.size ≤ aF := by omega
  have ge_aT : h0.size ≤ aT := by omega
  have ge_aO : h0.size ≤ aO := by omega
  have ge_aW : h0.size ≤ aW := by omega
  refine OwnDone.go (A := (T147.setTop (mkF m 152 #[.val (.int p1), .val (.int p2), .val (.int p3), .val (.int p4), .val (.int p5), .val (.ref a1), .val (.ref a2), .val (.ref a4), .val (.ref a7), .val (.ref a11), .val (.ref a16), .val (.ref a22), .val (.ref a29), .val (.ref a69), .val (.ref a114), .val (.ref a124), .val (.int (1 : Int32))] [(.ref a11), (.ref a29), (.ref a69), (.ref a114), (.int p5), (.int p2), (.ref a124), (.int (1 : Int32))]))) (fun tQ kQ => ?_) ?_
  · refine XS.iload P147.here hx rfl (hb hby at_137) rfl ?_
    show Steps p.tables e below (T147.setTop (mkF m 139 #[.val (.int p1), .val (.int p2), .val (.int p3), .val (.int p4), .val (.int p5), .val (.ref a1), .val (.ref a2), .val (.ref a4), .val (.ref a7), .val (.ref a11), .val (.ref a16), .val (.ref a22), .val (.ref a29), .val (.ref a69), .val (.ref a114), .val (.ref a124), .val (.int (1 : Int32))] [(.int (1 : Int32))])) _
    refine XS.aload P147.here hx rfl (hb hby at_139) rfl rfl ?_
    show Steps p.tables e below (T147.setTop (mkF m 141 #[.val (.int p1), .val (.int p2), .val (.int p3), .val (.int p4), .val (.int p5), .val (.ref a1), .val (.ref a2), .val (.ref a4), .val (.ref a7), .val (.ref a11), .val (.ref a16), .val (.ref a22), .val (.ref a29), .val (.ref a69), .val (.ref a114), .val (.ref a124), .val (.int (1 : Int32))] [(.ref a124), (.int (1 : Int32))])) _
    refine XS.iloadN P147.here hx rfl (hb hby at_141) rfl ?_
    show Steps p.tables e below (T147.setTop (mkF m 142 #[.val (.int p1), .val (.int p2), .val (.int p3), .val (.int p4), .val (.int p5), .val (.ref a1), .val (.ref a2), .val (.ref a4), .val (.ref a7), .val (.ref a11), .val (.ref a16), .val (.ref a22), .val (.ref a29), .val (.ref a69), .val (.ref a114), .val (.ref a124), .val (.int (1 : Int32))] [(.int p2), (.ref a124), (.int (1 : Int32))])) _
    refine XS.iload P147.here hx rfl (hb hby at_142) rfl ?_
    show Steps p.tables e below (T147.setTop (mkF m 144 #[.val (.int p1), .val (.int p2), .val (.int p3), .val (.int p4), .val (.int p5), .val (.ref a1), .val (.ref a2), .val (.ref a4), .val (.ref a7), .val (.ref a11), .val (.ref a16), .val (.ref a22), .val (.ref a29), .val (.ref a69), .val (.ref a114), .val (.ref a124), .val (.int (1 : Int32))] [(.int p5), (.int p2), (.ref a124), (.int (1 : Int32))])) _
    refine XS.aload P147.here hx rfl (hb hby at_144) rfl rfl ?_
    show Steps p.tables e below (T147.setTop (mkF m 146 #[.val (.int p1), .val (.int p2), .val (.int p3), .val (.int p4), .val (.int p5), .val (.ref a1), .val (.ref a2), .val (.ref a4), .val (.ref a7), .val (.ref a11), .val (.ref a16), .val (.ref a22), .val (.ref a29), .val (.ref a69), .val (.ref a114), .val (.ref a124), .val (.int (1 : Int32))] [(.ref a114), (.int p5), (.int p2), (.ref a124), (.int (1 : Int32))])) _
    refine XS.aload P147.here hx rfl (hb hby at_146) rfl rfl ?_
    show Steps p.tables e below (T147.setTop (mkF m 148 #[.val (.int p1), .val (.int p2), .val (.int p3), .val (.int p4), .val (.int p5), .val (.ref a1), .val (.ref a2), .val (.ref a4), .val (.ref a7), .val (.ref a11), .val (.ref a16), .val (.ref a22), .val (.ref a29), .val (.ref a69), .val (.ref a114), .val (.ref a124), .val (.int (1 : Int32))] [(.ref a69), (.ref a114), (.int p5), (.int p2), (.ref a124), (.int (1 : Int32))])) _
    refine XS.aload P147.here hx rfl (hb hby at_148) rfl rfl ?_
    show Steps p.tables e below (T147.setTop (mkF m 150 #[.val (.int p1), .val (.int p2), .val (.int p3), .val (.int p4), .val (.int p5), .val (.ref a1), .val (.ref a2), .val (.ref a4), .val (.ref a7), .val (.ref a11), .val (.ref a16), .val (.ref a22), .val (.ref a29), .val (.ref a69), .val (.ref a114), .val (.ref a124), .val (.int (1 : Int32))] [(.ref a29), (.ref a69), (.ref a114), (.int p5), (.int p2), (.ref a124), (.int (1 : Int32))])) _
    refine XS.aload P147.here hx rfl (hb hby at_150) rfl rfl ?_
    show Steps p.tables e below (T147.setTop (mkF m 152 #[.val (.int p1), .val (.int p2), .val (.int p3), .val (.int p4), .val (.int p5), .val (.ref a1), .val (.ref a2), .val (.ref a4), .val (.ref a7), .val (.ref a11), .val (.ref a16), .val (.ref a22), .val (.ref a29), .val (.ref a69), .val (.ref a114), .val (.ref a124), .val (.int (1 : Int32))] [(.ref a11), (.ref a29), (.ref a69), (.ref a114), (.int p5), (.int p2), (.ref a124), (.int (1 : Int32))])) _
    exact kQ
  show OwnDone p e below _ (T147.setTop (mkF m 152 #[.val (.int p1), .val (.int p2), .val (.int p3), .val (.int p4), .val (.int p5), .val (.ref a1), .val (.ref a2), .val (.ref a4), .val (.ref a7), .val (.ref a11), .val (.ref a16), .val (.ref a22), .val (.ref a29), .val (.ref a69), .val (.ref a114), .val (.ref a124), .val (.int (1 : Int32))] [(.ref a11), (.ref a29), (.ref a69), (.ref a114), (.int p5), (.int p2), (.ref a124), (.int (1 : Int32))]))
  have J0 : own_Inv Z h136 a124 aR aV aF aT aO aW a114 a29 kR kV kF kT kO kW k114 k29 a1 a2 a4 a7 0 := ⟨vd, 0, 0, 0, _, _, _, _, _, _, .null, .null, Ob136, YaR136, YaV136, YaF136, YaT136, YaO136, YaW136, Y146_a114, Y144_a29, ⟨rfl, rfl, rfl, rfl, rfl, rfl⟩, ⟨by decide, by decide⟩, ⟨by decide, by decide⟩, Or.inl ⟨rfl, rfl⟩, Or.inl ⟨rfl, rfl⟩⟩
  refine own_callS (y := (⟨"com/example/tidx/tidx/index/RunFirstPinLaw", "step", "(Lcom/example/tidx/tidx/index/Run;II[Ljava/lang/Object;[I[[Ljava/lang/Object;[Ljava/lang/Object;)Z"⟩ : MethodName)) C P147 (hw _ (List.mem_of_getElem? (i := 41) rfl)) (hw _ (List.mem_of_getElem? (i := 42) rfl)) (hw _ (List.mem_of_getElem? (i := 43) rfl)) (hw _ (List.mem_of_getElem? (i := 44) rfl)) (by decide) (rmst l Z a0 hw a124 p2 p5 a114 a69 a29 a11 aR aV aF aT aO aW kR kV kF kT kO kW k114 k29 a1 a2 a4 a7 0 h136 P147.old (Nat.le_trans hE.1 (by omega)) (Nat.le_trans hE.1 (by omega)) (Nat.le_trans hE.1 (by omega)) (Nat.le_trans hE.1 (by omega)) (Nat.le_trans hE.1 (by omega)) (Nat.le_trans hE.1 (by omega)) (Nat.le_trans hE.1 (by omega)) (Nat.le_trans hE.1 (by omega)) (by decide) J0 (by omega) (by omega) (by omega) (by omega) (by omega) (by omega) (by omega) (by omega) (by omega) (by omega) VR VV VW NO NW V114 (Y145_a69.ins N69) (Y144_a29.ins N29) (Y141_a11.ins N11) (Y141_a11.insC N11 (hw _ (List.mem_of_getElem? (i := 60) rfl))) (Y137_a1.insC N1 (hw _ (List.mem_of_getElem? (i := 60) rfl))) (Y138_a2.insC N2 (hw _ (List.mem_of_getElem? (i := 60) rfl))) (Y139_a4.insC N4 (hw _ (List.mem_of_getElem? (i := 60) rfl))) (Y140_a7.insC N7 (hw _ (List.mem_of_getElem? (i := 60) rfl)))) (as := [(.ref a124), (.int p2), (.int p5), (.ref a114), (.ref a69), (.ref a29), (.ref a11)]) (rest := [(.int (1 : Int32))]) pd_8 rfl rfl (wd := 1) rfl rfl at_152 (allS (Or.inr ge_a114) (allS (Or.inr ge_a124) (allS (Or.inr ge_aR) (allS (Or.inr ge_aV) (allS (Or.inr ge_aF) (allS (Or.inr ge_aT) (allS (Or.inr ge_aO) (allS (Or.inr ge_aW) all0)))))))) (by decide) (by decide) (by decide) (by decide) (fun T148 h148 v148 P148 K148 hQ148 => ?_)
  obtain ⟨rfl, J1⟩ := hQ148
  have I149_a29 := own_insK Ien K148
  have Y150_a1 := Y137_a1.keep K148 (ninS (own_neL (by omega)) (ninS (own_neL (by omega)) (ninS (own_neL (by omega)) (ninS (own_neL (by omega)) (ninS (own_neL (by omega)) (ninS (own_neL (by omega)) (ninS (own_neL (by omega)) (ninS (own_neL (by omega)) nin0))))))))
  have Y151_a2 := Y138_a2.keep K148 (ninS (own_neL (by omega)) (ninS (own_neL (by omega)) (ninS (own_neL (by omega)) (ninS (own_neL (by omega)) (ninS (own_neL (by omega)) (ninS (own_neL (by omega)) (ninS (own_neL (by omega)) (ninS (own_neL (by omega)) nin0))))))))
  have Y152_a4 := Y139_a4.keep K148 (ninS (own_neL (by omega)) (ninS (own_neL (by omega)) (ninS (own_neL (by omega)) (ninS (own_neL (by omega)) (ninS (own_neL (by omega)) (ninS (own_neL (by omega)) (ninS (own_neL (by omega)) (ninS (own_neL (by omega)) nin0))))))))
  have Y153_a7 := Y140_a7.keep K148 (ninS (own_neL (by omega)) (ninS (own_neL (by omega)) (ninS (own_neL (by omega)) (ninS (own_neL (by omega)) (ninS (own_neL (by omega)) (ninS (own_neL (by omega)) (ninS (own_neL (by omega)) (ninS (own_neL (by omega)) nin0))))))))
  have Y154_a11 := Y141_a11.keep K148 (ninS (own_neL (by omega)) (ninS (own_neL (by omega)) (ninS (own_neL (by omega)) (ninS (own_neL (by omega)) (ninS (own_neL (by omega)) (ninS (own_neL (by omega)) (ninS (own_neL (by omega)) (ninS (own_neL (by omega)) nin0))))))))
  have Y155_a16 := Y142_a16.keep K148 (ninS (own_neL (by omega)) (ninS (own_neL (by omega)) (ninS (own_neL (by omega)) (ninS (own_neL (by omega)) (ninS (own_neL (by omega)) (ninS (own_neL (by omega)) (ninS (own_neL (by omega)) (ninS (own_neL (by omega)) nin0))))))))
  have Y156_a22 := Y143_a22.keep K148 (ninS (own_neL (by omega)) (ninS (own_neL (by omega)) (ninS (own_neL (by omega)) (ninS (own_neL (by omega)) (ninS (own_neL (by omega)) (ninS (own_neL (by omega)) (ninS (own_neL (by omega)) (ninS (own_neL (by omega)) nin0))))))))
  have Y157_a69 := Y145_a69.keep K148 (ninS (own_neL (by omega)) (ninS (own_neL (by omega)) (ninS (own_neL (by omega)) (ninS (own_neL (by omega)) (ninS (own_neL (by omega)) (ninS (own_neL (by omega)) (ninS (own_neL (by omega)) (ninS (own_neL (by omega)) nin0))))))))
  show OwnDone p e below _ (T148.setTop (mkF m 155 #[.val (.int p1), .val (.int p2), .val (.int p3), .val (.int p4), .val (.int p5), .val (.ref a1), .val (.ref a2), .val (.ref a4), .val (.ref a7), .val (.ref a11), .val (.ref a16), .val (.ref a22), .val (.ref a29), .val (.ref a69), .val (.ref a114), .val (.ref a124), .val (.int (1 : Int32))] [(.int (1 : Int32)), (.int (1 : Int32))]))
  refine OwnDone.go (A := (T148.setTop (mkF m 175 #[.val (.int p1), .val (.int p2), .val (.int p3), .val (.int p4), .val (.int p5), .val (.ref a1), .val (.ref a2), .val (.ref a4), .val (.ref a7), .val (.ref a11), .val (.ref a16), .val (.ref a22), .val (.ref a29), .val (.ref a69), .val (.ref a114), .val (.ref a124), .val (.int (1 : Int32))] [(.ref a16), (.ref a29), (.ref a69), (.ref a114), (.int (p5 ^^^ p3)), (.int p3), (.ref a124), (.int (1 : Int32))]))) (fun tQ kQ => ?_) ?_
  · refine XS.iand P148.here hx rfl (hb hby at_155) rfl ?_
    show Steps p.tables e below (T148.setTop (mkF m 156 #[.val (.int p1), .val (.int p2), .val (.int p3), .val (.int p4), .val (.int p5), .val (.ref a1), .val (.ref a2), .val (.ref a4), .val (.ref a7), .val (.ref a11), .val (.ref a16), .val (.ref a22), .val (.ref a29), .val (.ref a69), .val (.ref a114), .val (.ref a124), .val (.int (1 : Int32))] [(.int (1 : Int32))])) _
    refine XS.istore P148.here hx rfl (hb hby at_156) rfl (l' := #[.val (.int p1), .val (.int p2), .val (.int p3), .val (.int p4), .val (.int p5), .val (.ref a1), .val (.ref a2), .val (.ref a4), .val (.ref a7), .val (.ref a11), .val (.ref a16), .val (.ref a22), .val (.ref a29), .val (.ref a69), .val (.ref a114), .val (.ref a124), .val (.int (1 : Int32))]) rfl ?_
    show Steps p.tables e below (T148.setTop (mkF m 158 #[.val (.int p1), .val (.int p2), .val (.int p3), .val (.int p4), .val (.int p5), .val (.ref a1), .val (.ref a2), .val (.ref a4), .val (.ref a7), .val (.ref a11), .val (.ref a16), .val (.ref a22), .val (.ref a29), .val (.ref a69), .val (.ref a114), .val (.ref a124), .val (.int (1 : Int32))] [])) _
    refine XS.iload P148.here hx rfl (hb hby at_158) rfl ?_
    show Steps p.tables e below (T148.setTop (mkF m 160 #[.val (.int p1), .val (.int p2), .val (.int p3), .val (.int p4), .val (.int p5), .val (.ref a1), .val (.ref a2), .val (.ref a4), .val (.ref a7), .val (.ref a11), .val (.ref a16), .val (.ref a22), .val (.ref a29), .val (.ref a69), .val (.ref a114), .val (.ref a124), .val (.int (1 : Int32))] [(.int (1 : Int32))])) _
    refine XS.aload P148.here hx rfl (hb hby at_160) rfl rfl ?_
    show Steps p.tables e below (T148.setTop (mkF m 162 #[.val (.int p1), .val (.int p2), .val (.int p3), .val (.int p4), .val (.int p5), .val (.ref a1), .val (.ref a2), .val (.ref a4), .val (.ref a7), .val (.ref a11), .val (.ref a16), .val (.ref a22), .val (.ref a29), .val (.ref a69), .val (.ref a114), .val (.ref a124), .val (.int (1 : Int32))] [(.ref a124), (.int (1 : Int32))])) _
    refine XS.iloadN P148.here hx rfl (hb hby at_162) rfl ?_
    show Steps p.tables e below (T148.setTop (mkF m 163 #[.val (.int p1), .val (.int p2), .val (.int p3), .val (.int p4), .val (.int p5), .val (.ref a1), .val (.ref a2), .val (.ref a4), .val (.ref a7), .val (.ref a11), .val (.ref a16), .val (.ref a22), .val (.ref a29), .val (.ref a69), .val (.ref a114), .val (.ref a124), .val (.int (1 : Int32))] [(.int p3), (.ref a124), (.int (1 : Int32))])) _
    refine XS.iload P148.here hx rfl (hb hby at_163) rfl ?_
    show Steps p.tables e below (T148.setTop (mkF m 165 #[.val (.int p1), .val (.int p2), .val (.int p3), .val (.int p4), .val (.int p5), .val (.ref a1), .val (.ref a2), .val (.ref a4), .val (.ref a7), .val (.ref a11), .val (.ref a16), .val (.ref a22), .val (.ref a29), .val (.ref a69), .val (.ref a114), .val (.ref a124), .val (.int (1 : Int32))] [(.int p5), (.int p3), (.ref a124), (.int (1 : Int32))])) _
    refine XS.iloadN P148.here hx rfl (hb hby at_165) rfl ?_
    show Steps p.tables e below (T148.setTop (mkF m 166 #[.val (.int p1), .val (.int p2), .val (.int p3), .val (.int p4), .val (.int p5), .val (.ref a1), .val (.ref a2), .val (.ref a4), .val (.ref a7), .val (.ref a11), .val (.ref a16), .val (.ref a22), .val (.ref a29), .val (.ref a69), .val (.ref a114), .val (.ref a124), .val (.int (1 : Int32))] [(.int p3), (.int p5), (.int p3), (.ref a124), (.int (1 : Int32))])) _
    refine XT.ixor P148.here hx rfl (hb hby at_166) rfl ?_
    show Steps p.tables e below (T148.setTop (mkF m 167 #[.val (.int p1), .val (.int p2), .val (.int p3), .val (.int p4), .val (.int p5), .val (.ref a1), .val (.ref a2), .val (.ref a4), .val (.ref a7), .val (.ref a11), .val (.ref a16), .val (.ref a22), .val (.ref a29), .val (.ref a69), .val (.ref a114), .val (.ref a124), .val (.int (1 : Int32))] [(.int (p5 ^^^ p3)), (.int p3), (.ref a124), (.int (1 : Int32))])) _
    refine XS.aload P148.here hx rfl (hb hby at_167) rfl rfl ?_
    show Steps p.tables e below (T148.setTop (mkF m 169 #[.val (.int p1), .val (.int p2), .val (.int p3), .val (.int p4), .val (.int p5), .val (.ref a1), .val (.ref a2), .val (.ref a4), .val (.ref a7), .val (.ref a11), .val (.ref a16), .val (.ref a22), .val (.ref a29), .val (.ref a69), .val (.ref a114), .val (.ref a124), .val (.int (1 : Int32))] [(.ref a114), (.int (p5 ^^^ p3)), (.int p3), (.ref a124), (.int (1 : Int32))])) _
    refine XS.aload P148.here hx rfl (hb hby at_169) rfl rfl ?_
    show Steps p.tables e below (T148.setTop (mkF m 171 #[.val (.int p1), .val (.int p2), .val (.int p3), .val (.int p4), .val (.int p5), .val (.ref a1), .val (.ref a2), .val (.ref a4), .val (.ref a7), .val (.ref a11), .val (.ref a16), .val (.ref a22), .val (.ref a29), .val (.ref a69), .val (.ref a114), .val (.ref a124), .val (.int (1 : Int32))] [(.ref a69), (.ref a114), (.int (p5 ^^^ p3)), (.int p3), (.ref a124), (.int (1 : Int32))])) _
    refine XS.aload P148.here hx rfl (hb hby at_171) rfl rfl ?_
    show Steps p.tables e below (T148.setTop (mkF m 173 #[.val (.int p1), .val (.int p2), .val (.int p3), .val (.int p4), .val (.int p5), .val (.ref a1), .val (.ref a2), .val (.ref a4), .val (.ref a7), .val (.ref a11), .val (.ref a16), .val (.ref a22), .val (.ref a29), .val (.ref a69), .val (.ref a114), .val (.ref a124), .val (.int (1 : Int32))] [(.ref a29), (.ref a69), (.ref a114), (.int (p5 ^^^ p3)), (.int p3), (.ref a124), (.int (1 : Int32))])) _
    refine XS.aload P148.here hx rfl (hb hby at_173) rfl rfl ?_
    show Steps p.tables e below (T148.setTop (mkF m 175 #[.val (.int p1), .val (.int p2), .val (.int p3), .val (.int p4), .val (.int p5), .val (.ref a1), .val (.ref a2), .val (.ref a4), .val (.ref a7), .val (.ref a11), .val (.ref a16), .val (.ref a22), .val (.ref a29), .val (.ref a69), .val (.ref a114), .val (.ref a124), .val (.int (1 : Int32))] [(.ref a16), (.ref a29), (.ref a69), (.ref a114), (.int (p5 ^^^ p3)), (.int p3), (.ref a124), (.int (1 : Int32))])) _
    exact kQ
  show OwnDone p e below _ (T148.setTop (mkF m 175 #[.val (.int p1), .val (.int p2), .val (.int p3), .val (.int p4), .val (.int p5), .val (.ref a1), .val (.ref a2), .val (.ref a4), .val (.ref a7), .val (.ref a11), .val (.ref a16), .val (.ref a22), .val (.ref a29), .val (.ref a69), .val (.ref a114), .val (.ref a124), .val (.int (1 : Int32))] [(.ref a16), (.ref a29), (.ref a69), (.ref a114), (.int (p5 ^^^ p3)), (.int p3), (.ref a124), (.int (1 : Int32))]))
  refine own_callS (y := (⟨"com/example/tidx/tidx/index/RunFirstPinLaw", "step", "(Lcom/example/tidx/tidx/index/Run;II[Ljava/lang/Object;[I[[Ljava/lang/Object;[Ljava/lang/Object;)Z"⟩ : MethodName)) C P148 (hw _ (List.mem_of_getElem? (i := 41) rfl)) (hw _ (List.mem_of_getElem? (i := 42) rfl)) (hw _ (List.mem_of_getElem? (i := 43) rfl)) (hw _ (List.mem_of_getElem? (i := 44) rfl)) (by decide) (rmst l Z a0 hw a124 p3 (p5 ^^^ p3) a114 a69 a29 a16 aR aV aF aT aO aW kR kV kF kT kO kW k114 k29 a1 a2 a4 a7 1 h148 P148.old (Nat.le_trans hE.1 (by omega)) (Nat.le_trans hE.1 (by omega)) (Nat.le_trans hE.1 (by omega)) (Nat.le_trans hE.1 (by omega)) (Nat.le_trans hE.1 (by omega)) (Nat.le_trans hE.1 (by omega)) (Nat.le_trans hE.1 (by omega)) (Nat.le_trans hE.1 (by omega)) (by decide) J1 (by omega) (by omega) (by omega) (by omega) (by omega) (by omega) (by omega) (by omega) (by omega) (by omega) VR VV VW NO NW V114 (Y157_a69.ins N69) I149_a29 (Y155_a16.ins N16) (Y155_a16.insC N16 (hw _ (List.mem_of_getElem? (i := 60) rfl))) (Y150_a1.insC N1 (hw _ (List.mem_of_getElem? (i := 60) rfl))) (Y151_a2.insC N2 (hw _ (List.mem_of_getElem? (i := 60) rfl))) (Y152_a4.insC N4 (hw _ (List.mem_of_getElem? (i := 60) rfl))) (Y153_a7.insC N7 (hw _ (List.mem_of_getElem? (i := 60) rfl)))) (as := [(.ref a124), (.int p3), (.int (p5 ^^^ p3)), (.ref a114), (.ref a69), (.ref a29), (.ref a16)]) (rest := [(.int (1 : Int32))]) pd_8 rfl rfl (wd := 1) rfl rfl at_175 (allS (Or.inr ge_a114) (allS (Or.inr ge_a124) (allS (Or.inr ge_aR) (allS (Or.inr ge_aV) (allS (Or.inr ge_aF) (allS (Or.inr ge_aT) (allS (Or.inr ge_aO) (allS (Or.inr ge_aW) all0)))))))) (by decide) (by decide) (by decide) (by decide) (fun T158 h158 v158 P158 K158 hQ158 => ?_)
  obtain ⟨rfl, J2⟩ := hQ158
  have I159_a29 := own_insK I149_a29 K158
  have Y160_a1 := Y150_a1.keep K158 (ninS (own_neL (by omega)) (ninS (own_neL (by omega)) (ninS (own_neL (by omega)) (ninS (own_neL (by omega)) (ninS (own_neL (by omega)) (ninS (own_neL (by omega)) (ninS (own_neL (by omega)) (ninS (own_neL (by omega)) nin0))))))))
  have Y161_a2 := Y151_a2.keep K158 (ninS (own_neL (by omega)) (ninS (own_neL (by omega)) (ninS (own_neL (by omega)) (ninS (own_neL (by omega)) (ninS (own_neL (by omega)) (ninS (own_neL (by omega)) (ninS (own_neL (by omega)) (ninS (own_neL (by omega)) nin0))))))))
  have Y162_a4 := Y152_a4.keep K158 (ninS (own_neL (by omega)) (ninS (own_neL (by omega)) (ninS (own_neL (by omega)) (ninS (own_neL (by omega)) (ninS (own_neL (by omega)) (ninS (own_neL (by omega)) (ninS (own_neL (by omega)) (ninS (own_neL (by omega)) nin0))))))))
  have Y163_a7 := Y153_a7.keep K158 (ninS (own_neL (by omega)) (ninS (own_neL (by omega)) (ninS (own_neL (by omega)) (ninS (own_neL (by omega)) (ninS (own_neL (by omega)) (ninS (own_neL (by omega)) (ninS (own_neL (by omega)) (ninS (own_neL (by omega)) nin0))))))))
  have Y164_a11 := Y154_a11.keep K158 (ninS (own_neL (by omega)) (ninS (own_neL (by omega)) (ninS (own_neL (by omega)) (ninS (own_neL (by omega)) (ninS (own_neL (by omega)) (ninS (own_neL (by omega)) (ninS (own_neL (by omega)) (ninS (own_neL (by omega)) nin0))))))))
  have Y165_a16 := Y155_a16.keep K158 (ninS (own_neL (by omega)) (ninS (own_neL (by omega)) (ninS (own_neL (by omega)) (ninS (own_neL (by omega)) (ninS (own_neL (by omega)) (ninS (own_neL (by omega)) (ninS (own_neL (by omega)) (ninS (own_neL (by omega)) nin0))))))))
  have Y166_a22 := Y156_a22.keep K158 (ninS (own_neL (by omega)) (ninS (own_neL (by omega)) (ninS (own_neL (by omega)) (ninS (own_neL (by omega)) (ninS (own_neL (by omega)) (ninS (own_neL (by omega)) (ninS (own_neL (by omega)) (ninS (own_neL (by omega)) nin0))))))))
  have Y167_a69 := Y157_a69.keep K158 (ninS (own_neL (by omega)) (ninS (own_neL (by omega)) (ninS (own_neL (by omega)) (ninS (own_neL (by omega)) (ninS (own_neL (by omega)) (ninS (own_neL (by omega)) (ninS (own_neL (by omega)) (ninS (own_neL (by omega)) nin0))))))))
  show OwnDone p e below _ (T158.setTop (mkF m 178 #[.val (.int p1), .val (.int p2), .val (.int p3), .val (.int p4), .val (.int p5), .val (.ref a1), .val (.ref a2), .val (.ref a4), .val (.ref a7), .val (.ref a11), .val (.ref a16), .val (.ref a22), .val (.ref a29), .val (.ref a69), .val (.ref a114), .val (.ref a124), .val (.int (1 : Int32))] [(.int (1 : Int32)), (.int (1 : Int32))]))
  refine OwnDone.go (A := (T158.setTop (mkF m 198 #[.val (.int p1), .val (.int p2), .val (.int p3), .val (.int p4), .val (.int p5), .val (.ref a1), .val (.ref a2), .val (.ref a4), .val (.ref a7), .val (.ref a11), .val (.ref a16), .val (.ref a22), .val (.ref a29), .val (.ref a69), .val (.ref a114), .val (.ref a124), .val (.int (1 : Int32))] [(.ref a22), (.ref a29), (.ref a69), (.ref a114), (.int (p5 ^^^ p4)), (.int p4), (.ref a124), (.int (1 : Int32))]))) (fun tQ kQ => ?_) ?_
  · refine XS.iand P158.here hx rfl (hb hby at_178) rfl ?_
    show Steps p.tables e below (T158.setTop (mkF m 179 #[.val (.int p1), .val (.int p2), .val (.int p3), .val (.int p4), .val (.int p5), .val (.ref a1), .val (.ref a2), .val (.ref a4), .val (.ref a7), .val (.ref a11), .val (.ref a16), .val (.ref a22), .val (.ref a29), .val (.ref a69), .val (.ref a114), .val (.ref a124), .val (.int (1 : Int32))] [(.int (1 : Int32))])) _
    refine XS.istore P158.here hx rfl (hb hby at_179) rfl (l' := #[.val (.int p1), .val (.int p2), .val (.int p3), .val (.int p4), .val (.int p5), .val (.ref a1), .val (.ref a2), .val (.ref a4), .val (.ref a7), .val (.ref a11), .val (.ref a16), .val (.ref a22), .val (.ref a29), .val (.ref a69), .val (.ref a114), .val (.ref a124), .val (.int (1 : Int32))]) rfl ?_
    show Steps p.tables e below (T158.setTop (mkF m 181 #[.val (.int p1), .val (.int p2), .val (.int p3), .val (.int p4), .val (.int p5), .val (.ref a1), .val (.ref a2), .val (.ref a4), .val (.ref a7), .val (.ref a11), .val (.ref a16), .val (.ref a22), .val (.ref a29), .val (.ref a69), .val (.ref a114), .val (.ref a124), .val (.int (1 : Int32))] [])) _
    refine XS.iload P158.here hx rfl (hb hby at_181) rfl ?_
    show Steps p.tables e below (T158.setTop (mkF m 183 #[.val (.int p1), .val (.int p2), .val (.int p3), .val (.int p4), .val (.int p5), .val (.ref a1), .val (.ref a2), .val (.ref a4), .val (.ref a7), .val (.ref a11), .val (.ref a16), .val (.ref a22), .val (.ref a29), .val (.ref a69), .val (.ref a114), .val (.ref a124), .val (.int (1 : Int32))] [(.int (1 : Int32))])) _
    refine XS.aload P158.here hx rfl (hb hby at_183) rfl rfl ?_
    show Steps p.tables e below (T158.setTop (mkF m 185 #[.val (.int p1), .val (.int p2), .val (.int p3), .val (.int p4), .val (.int p5), .val (.ref a1), .val (.ref a2), .val (.ref a4), .val (.ref a7), .val (.ref a11), .val (.ref a16), .val (.ref a22), .val (.ref a29), .val (.ref a69), .val (.ref a114), .val (.ref a124), .val (.int (1 : Int32))] [(.ref a124), (.int (1 : Int32))])) _
    refine XS.iloadN P158.here hx rfl (hb hby at_185) rfl ?_
    show Steps p.tables e below (T158.setTop (mkF m 186 #[.val (.int p1), .val (.int p2), .val (.int p3), .val (.int p4), .val (.int p5), .val (.ref a1), .val (.ref a2), .val (.ref a4), .val (.ref a7), .val (.ref a11), .val (.ref a16), .val (.ref a22), .val (.ref a29), .val (.ref a69), .val (.ref a114), .val (.ref a124), .val (.int (1 : Int32))] [(.int p4), (.ref a124), (.int (1 : Int32))])) _
    refine XS.iload P158.here hx rfl (hb hby at_186) rfl ?_
    show Steps p.tables e below (T158.setTop (mkF m 188 #[.val (.int p1), .val (.int p2), .val (.int p3), .val (.int p4), .val (.int p5), .val (.ref a1), .val (.ref a2), .val (.ref a4), .val (.ref a7), .val (.ref a11), .val (.ref a16), .val (.ref a22), .val (.ref a29), .val (.ref a69), .val (.ref a114), .val (.ref a124), .val (.int (1 : Int32))] [(.int p5), (.int p4), (.ref a124), (.int (1 : Int32))])) _
    refine XS.iloadN P158.here hx rfl (hb hby at_188) rfl ?_
    show Steps p.tables e below (T158.setTop (mkF m 189 #[.val (.int p1), .val (.int p2), .val (.int p3), .val (.int p4), .val (.int p5), .val (.ref a1), .val (.ref a2), .val (.ref a4), .val (.ref a7), .val (.ref a11), .val (.ref a16), .val (.ref a22), .val (.ref a29), .val (.ref a69), .val (.ref a114), .val (.ref a124), .val (.int (1 : Int32))] [(.int p4), (.int p5), (.int p4), (.ref a124), (.int (1 : Int32))])) _
    refine XT.ixor P158.here hx rfl (hb hby at_189) rfl ?_
    show Steps p.tables e below (T158.setTop (mkF m 190 #[.val (.int p1), .val (.int p2), .val (.int p3), .val (.int p4), .val (.int p5), .val (.ref a1), .val (.ref a2), .val (.ref a4), .val (.ref a7), .val (.ref a11), .val (.ref a16), .val (.ref a22), .val (.ref a29), .val (.ref a69), .val (.ref a114), .val (.ref a124), .val (.int (1 : Int32))] [(.int (p5 ^^^ p4)), (.int p4), (.ref a124), (.int (1 : Int32))])) _
    refine XS.aload P158.here hx rfl (hb hby at_190) rfl rfl ?_
    show Steps p.tables e below (T158.setTop (mkF m 192 #[.val (.int p1), .val (.int p2), .val (.int p3), .val (.int p4), .val (.int p5), .val (.ref a1), .val (.ref a2), .val (.ref a4), .val (.ref a7), .val (.ref a11), .val (.ref a16), .val (.ref a22), .val (.ref a29), .val (.ref a69), .val (.ref a114), .val (.ref a124), .val (.int (1 : Int32))] [(.ref a114), (.int (p5 ^^^ p4)), (.int p4), (.ref a124), (.int (1 : Int32))])) _
    refine XS.aload P158.here hx rfl (hb hby at_192) rfl rfl ?_
    show Steps p.tables e below (T158.setTop (mkF m 194 #[.val (.int p1), .val (.int p2), .val (.int p3), .val (.int p4), .val (.int p5), .val (.ref a1), .val (.ref a2), .val (.ref a4), .val (.ref a7), .val (.ref a11), .val (.ref a16), .val (.ref a22), .val (.ref a29), .val (.ref a69), .val (.ref a114), .val (.ref a124), .val (.int (1 : Int32))] [(.ref a69), (.ref a114), (.int (p5 ^^^ p4)), (.int p4), (.ref a124), (.int (1 : Int32))])) _
    refine XS.aload P158.here hx rfl (hb hby at_194) rfl rfl ?_
    show Steps p.tables e below (T158.setTop (mkF m 196 #[.val (.int p1), .val (.int p2), .val (.int p3), .val (.int p4), .val (.int p5), .val (.ref a1), .val (.ref a2), .val (.ref a4), .val (.ref a7), .val (.ref a11), .val (.ref a16), .val (.ref a22), .val (.ref a29), .val (.ref a69), .val (.ref a114), .val (.ref a124), .val (.int (1 : Int32))] [(.ref a29), (.ref a69), (.ref a114), (.int (p5 ^^^ p4)), (.int p4), (.ref a124), (.int (1 : Int32))])) _
    refine XS.aload P158.here hx rfl (hb hby at_196) rfl rfl ?_
    show Steps p.tables e below (T158.setTop (mkF m 198 #[.val (.int p1), .val (.int p2), .val (.int p3), .val (.int p4), .val (.int p5), .val (.ref a1), .val (.ref a2), .val (.ref a4), .val (.ref a7), .val (.ref a11), .val (.ref a16), .val (.ref a22), .val (.ref a29), .val (.ref a69), .val (.ref a114), .val (.ref a124), .val (.int (1 : Int32))] [(.ref a22), (.ref a29), (.ref a69), (.ref a114), (.int (p5 ^^^ p4)), (.int p4), (.ref a124), (.int (1 : Int32))])) _
    exact kQ
  show OwnDone p e below _ (T158.setTop (mkF m 198 #[.val (.int p1), .val (.int p2), .val (.int p3), .val (.int p4), .val (.int p5), .val (.ref a1), .val (.ref a2), .val (.ref a4), .val (.ref a7), .val (.ref a11), .val (.ref a16), .val (.ref a22), .val (.ref a29), .val (.ref a69), .val (.ref a114), .val (.ref a124), .val (.int (1 : Int32))] [(.ref a22), (.ref a29), (.ref a69), (.ref a114), (.int (p5 ^^^ p4)), (.int p4), (.ref a124), (.int (1 : Int32))]))
  refine own_callS (y := (⟨"com/example/tidx/tidx/index/RunFirstPinLaw", "step", "(Lcom/example/tidx/tidx/index/Run;II[Ljava/lang/Object;[I[[Ljava/lang/Object;[Ljava/lang/Object;)Z"⟩ : MethodName)) C P158 (hw _ (List.mem_of_getElem? (i := 41) rfl)) (hw _ (List.mem_of_getElem? (i := 42) rfl)) (hw _ (List.mem_of_getElem? (i := 43) rfl)) (hw _ (List.mem_of_getElem? (i := 44) rfl)) (by decide) (rmst l Z a0 hw a124 p4 (p5 ^^^ p4) a114 a69 a29 a22 aR aV aF aT aO aW kR kV kF kT kO kW k114 k29 a1 a2 a4 a7 2 h158 P158.old (Nat.le_trans hE.1 (by omega)) (Nat.le_trans hE.1 (by omega)) (Nat.le_trans hE.1 (by omega)) (Nat.le_trans hE.1 (by omega)) (Nat.le_trans hE.1 (by omega)) (Nat.le_trans hE.1 (by omega)) (Nat.le_trans hE.1 (by omega)) (Nat.le_trans hE.1 (by omega)) (by decide) J2 (by omega) (by omega) (by omega) (by omega) (by omega) (by omega) (by omega) (by omega) (by omega) (by omega) VR VV VW NO NW V114 (Y167_a69.ins N69) I159_a29 (Y166_a22.ins N22) (Y166_a22.insC N22 (hw _ (List.mem_of_getElem? (i := 60) rfl))) (Y160_a1.insC N1 (hw _ (List.mem_of_getElem? (i := 60) rfl))) (Y161_a2.insC N2 (hw _ (List.mem_of_getElem? (i := 60) rfl))) (Y162_a4.insC N4 (hw _ (List.mem_of_getElem? (i := 60) rfl))) (Y163_a7.insC N7 (hw _ (List.mem_of_getElem? (i := 60) rfl)))) (as := [(.ref a124), (.int p4), (.int (p5 ^^^ p4)), (.ref a114), (.ref a69), (.ref a29), (.ref a22)]) (rest := [(.int (1 : Int32))]) pd_8 rfl rfl (wd := 1) rfl rfl at_198 (allS (Or.inr ge_a114) (allS (Or.inr ge_a124) (allS (Or.inr ge_aR) (allS (Or.inr ge_aV) (allS (Or.inr ge_aF) (allS (Or.inr ge_aT) (allS (Or.inr ge_aO) (allS (Or.inr ge_aW) all0)))))))) (by decide) (by decide) (by decide) (by decide) (fun T168 h168 v168 P168 K168 hQ168 => ?_)
  obtain ⟨rfl, J3⟩ := hQ168
  have I169_a29 := own_insK I159_a29 K168
  have Y170_a1 := Y160_a1.keep K168 (ninS (own_neL (by omega)) (ninS (own_neL (by omega)) (ninS (own_neL (by omega)) (ninS (own_neL (by omega)) (ninS (own_neL (by omega)) (ninS (own_neL (by omega)) (ninS (own_neL (by omega)) (ninS (own_neL (by omega)) nin0))))))))
  have Y171_a2 := Y161_a2.keep K168 (ninS (own_neL (by omega)) (ninS (own_neL (by omega)) (ninS (own_neL (by omega)) (ninS (own_neL (by omega)) (ninS (own_neL (by omega)) (ninS (own_neL (by omega)) (ninS (own_neL (by omega)) (ninS (own_neL (by omega)) nin0))))))))
  have Y172_a4 := Y162_a4.keep K168 (ninS (own_neL (by omega)) (ninS (own_neL (by omega)) (ninS (own_neL (by omega)) (ninS (own_neL (by omega)) (ninS (own_neL (by omega)) (ninS (own_neL (by omega)) (ninS (own_neL (by omega)) (ninS (own_neL (by omega)) nin0))))))))
  have Y173_a7 := Y163_a7.keep K168 (ninS (own_neL (by omega)) (ninS (own_neL (by omega)) (ninS (own_neL (by omega)) (ninS (own_neL (by omega)) (ninS (own_neL (by omega)) (ninS (own_neL (by omega)) (ninS (own_neL (by omega)) (ninS (own_neL (by omega)) nin0))))))))
  have Y174_a11 := Y164_a11.keep K168 (ninS (own_neL (by omega)) (ninS (own_neL (by omega)) (ninS (own_neL (by omega)) (ninS (own_neL (by omega)) (ninS (own_neL (by omega)) (ninS (own_neL (by omega)) (ninS (own_neL (by omega)) (ninS (own_neL (by omega)) nin0))))))))
  have Y175_a16 := Y165_a16.keep K168 (ninS (own_neL (by omega)) (ninS (own_neL (by omega)) (ninS (own_neL (by omega)) (ninS (own_neL (by omega)) (ninS (own_neL (by omega)) (ninS (own_neL (by omega)) (ninS (own_neL (by omega)) (ninS (own_neL (by omega)) nin0))))))))
  have Y176_a22 := Y166_a22.keep K168 (ninS (own_neL (by omega)) (ninS (own_neL (by omega)) (ninS (own_neL (by omega)) (ninS (own_neL (by omega)) (ninS (own_neL (by omega)) (ninS (own_neL (by omega)) (ninS (own_neL (by omega)) (ninS (own_neL (by omega)) nin0))))))))
  have Y177_a69 := Y167_a69.keep K168 (ninS (own_neL (by omega)) (ninS (own_neL (by omega)) (ninS (own_neL (by omega)) (ninS (own_neL (by omega)) (ninS (own_neL (by omega)) (ninS (own_neL (by omega)) (ninS (own_neL (by omega)) (ninS (own_neL (by omega)) nin0))))))))
  show OwnDone p e below _ (T168.setTop (mkF m 201 #[.val (.int p1), .val (.int p2), .val (.int p3), .val (.int p4), .val (.int p5), .val (.ref a1), .val (.ref a2), .val (.ref a4), .val (.ref a7), .val (.ref a11), .val (.ref a16), .val (.ref a22), .val (.ref a29), .val (.ref a69), .val (.ref a114), .val (.ref a124), .val (.int (1 : Int32))] [(.int (1 : Int32)), (.int (1 : Int32))]))
  refine OwnDone.go (A := (T168.setTop (mkF m 206 #[.val (.int p1), .val (.int p2), .val (.int p3), .val (.int p4), .val (.int p5), .val (.ref a1), .val (.ref a2), .val (.ref a4), .val (.ref a7), .val (.ref a11), .val (.ref a16), .val (.ref a22), .val (.ref a29), .val (.ref a69), .val (.ref a114), .val (.ref a124), .val (.int (1 : Int32))] [(.int (1 : Int32))]))) (fun tQ kQ => ?_) ?_
  · refine XS.iand P168.here hx rfl (hb hby at_201) rfl ?_
    show Steps p.tables e below (T168.setTop (mkF m 202 #[.val (.int p1), .val (.int p2), .val (.int p3), .val (.int p4), .val (.int p5), .val (.ref a1), .val (.ref a2), .val (.ref a4), .val (.ref a7), .val (.ref a11), .val (.ref a16), .val (.ref a22), .val (.ref a29), .val (.ref a69), .val (.ref a114), .val (.ref a124), .val (.int (1 : Int32))] [(.int (1 : Int32))])) _
    refine XS.istore P168.here hx rfl (hb hby at_202) rfl (l' := #[.val (.int p1), .val (.int p2), .val (.int p3), .val (.int p4), .val (.int p5), .val (.ref a1), .val (.ref a2), .val (.ref a4), .val (.ref a7), .val (.ref a11), .val (.ref a16), .val (.ref a22), .val (.ref a29), .val (.ref a69), .val (.ref a114), .val (.ref a124), .val (.int (1 : Int32))]) rfl ?_
    show Steps p.tables e below (T168.setTop (mkF m 204 #[.val (.int p1), .val (.int p2), .val (.int p3), .val (.int p4), .val (.int p5), .val (.ref a1), .val (.ref a2), .val (.ref a4), .val (.ref a7), .val (.ref a11), .val (.ref a16), .val (.ref a22), .val (.ref a29), .val (.ref a69), .val (.ref a114), .val (.ref a124), .val (.int (1 : Int32))] [])) _
    refine XS.iload P168.here hx rfl (hb hby at_204) rfl ?_
    show Steps p.tables e below (T168.setTop (mkF m 206 #[.val (.int p1), .val (.int p2), .val (.int p3), .val (.int p4), .val (.int p5), .val (.ref a1), .val (.ref a2), .val (.ref a4), .val (.ref a7), .val (.ref a11), .val (.ref a16), .val (.ref a22), .val (.ref a29), .val (.ref a69), .val (.ref a114), .val (.ref a124), .val (.int (1 : Int32))] [(.int (1 : Int32))])) _
    exact kQ
  show OwnDone p e below _ (T168.setTop (mkF m 206 #[.val (.int p1), .val (.int p2), .val (.int p3), .val (.int p4), .val (.int p5), .val (.ref a1), .val (.ref a2), .val (.ref a4), .val (.ref a7), .val (.ref a11), .val (.ref a16), .val (.ref a22), .val (.ref a29), .val (.ref a69), .val (.ref a114), .val (.ref a124), .val (.int (1 : Int32))] [(.int (1 : Int32))]))
  refine own_retN C P168 (by simp) (z' := (1 : Int32)) (by decide) at_206 (by decide) (by decide) rfl
set_option maxRecDepth 65536 in
set_option maxHeartbeats 40000000 in
theorem comes_1 {Post : Tables → Env → Array Value → State → Outcome → State → Prop} (hpost : ∀ tb e args s v u, (limb_1_1.after args s (.returned v) u = true ∧ limb_1_2.after args s (.returned v) u = true ∧ True) → FrameEnd s (.returned v) u (Jvm.fieldLocs frame_1_writes args s ++ Jvm.arrayLocs frame_1_arrays args s ++ Jvm.staticLocs frame_1_statics s) 48 256 → Post tb e args s (.returned v) u) :
    ArmFor flags0 classFile x code maxLocals ret World_1 tables_1 room_1 Calls_1 rest_1 Pre_1 Post := by
  intro l hfl _ _ p e ha hc hk s m args below hf hA hF happ hP
  obtain ⟨hcalls, hrest, hpre⟩ := hP
  obtain ⟨-, -, -, hnamed, -, -, -, hat⟩ := (Spec.applies_iff hf).mp happ
  obtain ⟨hg, hn⟩ := and_e (Cond.before_iff.mp (show (Jvm.Cond.and given_1 narrow_1).before args s = true from hpre))
  obtain ⟨hcount, hg⟩ := and_e hg
  obtain ⟨w0, w1, w2, w3, w4, rfl⟩ : ∃ w0 w1 w2 w3 w4 : Value, args = #[w0, w1, w2, w3, w4] := by
    have hs : args.size = 5 := by simpa [Cond.value, given_1] using hcount
    obtain ⟨L⟩ := args
    match L, hs with
    | [w0, w1, w2, w3, w4], _ => exact ⟨w0, w1, w2, w3, w4, rfl⟩
  have hw := fun d (hd : d ∈ tables_1) => atoms_spec (ws := Jvm.Cond.code x code maxLocals ret :: tables_1) hat d (List.mem_cons_of_mem _ hd)
  have hfit : Fit s := fun {y c} hc i hi => by
    obtain ⟨ha, rfl⟩ := Array.getElem?_eq_some_iff.mp hc
    have q := List.all_eq_true.mp ((Array.all_eq_true_iff_forall_mem.mp hF) _ (Array.getElem_mem ha)) i (List.mem_range.mpr hi)
    simpa [Array.getElem?_eq_getElem hi] using q
  obtain ⟨hg0, hg⟩ := and_e hg
  obtain ⟨i0, ei0⟩ := is_v hg0
  obtain rfl : w0 = (.int i0) := Option.some.inj ei0
  obtain ⟨hg1, hg⟩ := and_e hg
  obtain ⟨i1, ei1⟩ := is_v hg1
  obtain rfl : w1 = (.int i1) := Option.some.inj ei1
  obtain ⟨hg2, hg⟩ := and_e hg
  obtain ⟨i2, ei2⟩ := is_v hg2
  obtain rfl : w2 = (.int i2) := Option.some.inj ei2
  obtain ⟨hg3, hg⟩ := and_e hg
  obtain ⟨i3, ei3⟩ := is_v hg3
  obtain rfl : w3 = (.int i3) := Option.some.inj ei3
  obtain ⟨i4, ei4⟩ := is_v hg
  obtain rfl : w4 = (.int i4) := Option.some.inj ei4
  obtain ⟨n, o, h1, h2, h3, _, L, rfl, ⟨rfl, -, N⟩, hq⟩ := rm0 l s _ hw i0 i1 i2 i3 i4 s.heap ⟨Nat.le_refl _, fun _ _ q => q⟩  tables_1 p e ha hc hk s m _ below hf ((Spec.applies_iff_loose hf).mp happ).1 ⟨rfl, State.Warmed39.refl s, rfl⟩ trivial
  refine ⟨n, _, h1, h2, h3, hpost _ _ _ _ _ _ ⟨Cond.after_iff.mpr rfl, Cond.after_iff.mpr (eq_i res_at (Term.int_eval (1)) rfl), trivial⟩ ⟨hq.1, hq.2.1, (hq.2.2.sift fun y hy => Or.inr ((N y hy).elim (fun q => (nomatch q)) id)).mono (by decide) (by decide)⟩⟩
theorem main_1_1 : Claimed_1_1 := comes_1 fun _ _ _ _ _ _ h hF => ⟨h.1, hF⟩
theorem main_1_2 : Claimed_1_2 := comes_1 fun _ _ _ _ _ _ h hF => ⟨h.2.1, hF⟩
end Jvm.Pilot.@@N@@
namespace Jvm.Pilot.@@N@@
open Jvm Jvm.ClassFile Sem Op Lib Jvm.Free Jvm.Stand Jvm.Pilot.@@N@@.Jvm.D
/-! MADE BY PROGRAM (witnessworld.py) out of the Statement's table words and the real class files: 13 classes; the members and pool entries that the words name. The judged class is class 1, her method 1. -/
namespace start1
open Jvm.ClassFile
def u (s : String) : CpInfo := .utf8 (stringToUtf16 s)
/-- a pool by its gaps: so many unusable entries, then the entry; so many at the end -/
def gap : Nat → List CpInfo → List CpInfo
  | 0, r => r
  | n + 1, r => .unusable :: gap n r
def poolList (es : List (Nat × CpInfo)) (last : Nat) : List CpInfo := es.foldr (fun e r => gap e.1 (e.2 :: r)) (gap last [])
def pool (es : List (Nat × CpInfo)) (last : Nat) : Array CpInfo := ⟨poolList es last⟩
def fileOf (pool : Array CpInfo) (this : Nat) (attrs : Array Attribute := #[]) (ms : Array MethodInfo := #[]) (fl : Nat := 33) (sup : Nat := 0) (ifs : Array Nat := #[]) (fds : Array FieldInfo := #[]) : ClassFile where
  minorVersion := 0
  majorVersion := 65
  constantPool := pool
  accessFlags := fl
  thisClass := this
  superClass := sup
  interfaces := ifs
  fields := fds
  methods := ms
  attributes := attrs
def plain (name : String) (sup : Option ClassId) : Class where
  name := name
  kind := .ordinary
  loader := none
  accessFlags := 33
  super := sup
  interfaces := #[]
  cf := none
  fields := #[]
  methods := #[]
  instanceTypes := #[]
  staticTypes := #[]
  resolved := #[]
  callSites := []
  init := .initialized
  statics := none
  mirror := none

def pool0 : Array CpInfo := pool [(5, u "<init>"), (0, u "()V"), (1, .class_ 10), (1, u "java/lang/Object")] 113

def k0c0 : Code := { maxStack := 0, maxLocals := 1, code := object_method_1_code, exceptionTable := #[], attributes := #[] }
def k0m0 : Method := { name := "<init>", desc := "()V", sig := { parameters := [], returnType := none }, accessFlags := 1, code := some k0c0 }
/-- java/lang/Object -/
def k0 : Class := { plain "java/lang/Object" none with
  accessFlags := 33
  interfaces := #[]
  cf := some (fileOf pool0 8 #[] #[{ accessFlags := 1, nameIndex := 5, descriptorIndex := 6, attributes := #[] }] 33 0 #[] #[])
  fields := #[]
  methods := #[k0m0]
  instanceTypes := #[]
  staticTypes := #[]
  resolved := Array.replicate 124 none
  statics := none }

def pool1 : Array CpInfo := pool [(2, .class_ 4), (1, u "java/lang/Object"), (0, u "<init>"), (0, u "()V"), (0, .class_ 8), (0, u "[Ljava/lang/Object;"), (0, .class_ 10), (0, u "com/example/tidx/tidx/index/Run"), (0, .methodref 9 12), (0, .nameAndType 5 13), (0, u "(Z)V"), (0, .methodref 9 15), (0, .nameAndType 16 17), (0, u "first"), (0, u "()[Ljava/lang/Object;"), (0, .methodref 19 20), (0, .class_ 21), (0, .nameAndType 22 23), (0, u "com/example/tidx/tidx/index/RunFirstPinLaw"), (0, u "step"), (0, u "(Lcom/example/tidx/tidx/index/Run;II[Ljava/lang/Object;[I[[Ljava/lang/Object;[Ljava/lang/Object;)Z"), (0, .methodref 9 25), (0, .nameAndType 26 27), (0, u "add"), (0, u "(I[Ljava/lang/Object;)V"), (0, .methodref 29 30), (0, .class_ 31), (0, .nameAndType 32 33), (0, u "java/lang/Math"), (0, u "min"), (0, u "(II)I"), (0, .methodref 9 35), (0, .nameAndType 26 36), (0, u "([I[[Ljava/lang/Object;II)V"), (0, .methodref 9 38), (0, .nameAndType 39 6), (0, u "clear"), (2, u "law"), (0, u "(IIIII)Z")] 7

def k1m0 : Method := { name := "<init>", desc := "()V", sig := { parameters := [], returnType := none }, accessFlags := 1, code := none }
def k1c1 : Code := { maxStack := 8, maxLocals := 17, code := code, exceptionTable := #[], attributes := #[] }
def k1m1 : Method := { name := "law", desc := "(IIIII)Z", sig := { parameters := [.int, .int, .int, .int, .int], returnType := some .boolean }, accessFlags := 9, code := some k1c1 }
def k1c2 : Code := { maxStack := 5, maxLocals := 10, code := method_3_code, exceptionTable := #[], attributes := #[] }
def k1m2 : Method := { name := "step", desc := "(Lcom/example/tidx/tidx/index/Run;II[Ljava/lang/Object;[I[[Ljava/lang/Object;[Ljava/lang/Object;)Z", sig := { parameters := [(.object "com/example/tidx/tidx/index/Run"), .int, .int, (.array (.object "java/lang/Object")), (.array .int), (.array (.array (.object "java/lang/Object"))), (.array (.object "java/lang/Object"))], returnType := some .boolean }, accessFlags := 10, code := some k1c2 }
/-- com/example/tidx/tidx/index/RunFirstPinLaw -/
def k1 : Class := { plain "com/example/tidx/tidx/index/RunFirstPinLaw" (some 0) with
  accessFlags := 49
  interfaces := #[]
  cf := some (fileOf pool1 19 #[] #[{ accessFlags := 1, nameIndex := 5, descriptorIndex := 6, attributes := #[] }, { accessFlags := 9, nameIndex := 42, descriptorIndex := 43, attributes := #[] }, { accessFlags := 10, nameIndex := 22, descriptorIndex := 23, attributes := #[] }] 49 2 #[] #[])
  fields := #[]
  methods := #[k1m0, k1m1, k1m2]
  instanceTypes := #[]
  staticTypes := #[]
  resolved := Array.replicate 51 none
  statics := none }

def pool2 : Array CpInfo := pool [(16, .class_ 18), (1, u "java/util/Iterator"), (12, .class_ 32), (0, u "java/lang/Object")] 20

/-- java/util/Iterator -/
def k2 : Class := { plain "java/util/Iterator" (some 0) with
  accessFlags := 1537
  interfaces := #[]
  cf := some (fileOf pool2 16 #[] #[] 1537 31 #[] #[])
  fields := #[]
  methods := #[]
  instanceTypes := #[]
  staticTypes := #[]
  resolved := Array.replicate 53 none
  statics := none }

def pool3 : Array CpInfo := pool [(1, .methodref 2 3), (0, .class_ 4), (0, .nameAndType 5 6), (0, u "java/lang/Object"), (0, u "<init>"), (0, u "()V"), (0, .class_ 8), (0, u "[I"), (0, .fieldref 10 11), (0, .class_ 12), (0, .nameAndType 13 14), (0, u "com/example/tidx/tidx/index/Run"), (0, u "rows"), (0, u "[[I"), (0, .class_ 16), (0, u "[[Ljava/lang/Object;"), (0, .fieldref 10 18), (0, .nameAndType 19 20), (0, u "values"), (0, u "[[[Ljava/lang/Object;"), (0, .fieldref 10 22), (0, .nameAndType 23 8), (0, u "from"), (0, .fieldref 10 25), (0, .nameAndType 26 8), (0, u "to"), (0, .fieldref 10 28), (0, .nameAndType 29 8), (0, u "own"), (0, .class_ 31), (0, u "[Ljava/lang/Object;"), (0, .fieldref 10 33), (0, .nameAndType 34 16), (0, u "ownValues"), (0, .fieldref 10 36), (0, .nameAndType 37 38), (0, u "valued"), (0, u "Z"), (0, .fieldref 10 40), (0, .nameAndType 41 42), (0, u "owned"), (0, u "I"), (0, .methodref 44 45), (0, .class_ 46), (0, .nameAndType 47 48), (0, u "java/util/Arrays"), (0, u "fill"), (0, u "([Ljava/lang/Object;IILjava/lang/Object;)V"), (0, .fieldref 10 50), (0, .nameAndType 51 42), (0, u "slices"), (0, .fieldref 10 53), (0, .nameAndType 54 42), (0, u "size"), (0, .fieldref 10 56), (0, .nameAndType 57 58), (0, u "sorted"), (0, u "[J"), (0, .fieldref 10 60), (0, .nameAndType 61 8), (0, u "placed"), (7, .methodref 10 70), (0, .nameAndType 71 72), (0, u "slice"), (0, u "([I[[Ljava/lang/Object;II)V"), (24, u "shift"), (13, u "next"), (23, .class_ 136), (0, u "java/util/Iterator"), (0, u "SPREAD"), (2, u "(Z)V"), (2, u "clear"), (0, u "add"), (0, u "(I[Ljava/lang/Object;)V"), (1, u "first"), (0, u "()[Ljava/lang/Object;")] 13

def k3c0 : Code := { maxStack := 2, maxLocals := 2, code := prog_95_method_1_code, exceptionTable := #[], attributes := #[] }
def k3m0 : Method := { name := "<init>", desc := "(Z)V", sig := { parameters := [.boolean], returnType := none }, accessFlags := 0, code := some k3c0 }
def k3c1 : Code := { maxStack := 4, maxLocals := 1, code := prog_95_method_2_code, exceptionTable := #[], attributes := #[] }
def k3m1 : Method := { name := "clear", desc := "()V", sig := { parameters := [], returnType := none }, accessFlags := 0, code := some k3c1 }
def k3c2 : Code := { maxStack := 5, maxLocals := 3, code := prog_95_method_3_code, exceptionTable := #[], attributes := #[] }
def k3m2 : Method := { name := "add", desc := "(I[Ljava/lang/Object;)V", sig := { parameters := [.int, (.array (.object "java/lang/Object"))], returnType := none }, accessFlags := 0, code := some k3c2 }
def k3c3 : Code := { maxStack := 5, maxLocals := 5, code := prog_95_method_4_code, exceptionTable := #[], attributes := #[] }
def k3m3 : Method := { name := "add", desc := "([I[[Ljava/lang/Object;II)V", sig := { parameters := [(.array .int), (.array (.array (.object "java/lang/Object"))), .int, .int], returnType := none }, accessFlags := 0, code := some k3c3 }
def k3c4 : Code := { maxStack := 3, maxLocals := 1, code := prog_95_method_5_code, exceptionTable := #[], attributes := #[] }
def k3m4 : Method := { name := "first", desc := "()[Ljava/lang/Object;", sig := { parameters := [], returnType := some (.array (.object "java/lang/Object")) }, accessFlags := 0, code := some k3c4 }
def k3c5 : Code := { maxStack := 3, maxLocals := 6, code := prog_95_method_13_code, exceptionTable := #[], attributes := #[] }
def k3m5 : Method := { name := "slice", desc := "([I[[Ljava/lang/Object;II)V", sig := { parameters := [(.array .int), (.array (.array (.object "java/lang/Object"))), .int, .int], returnType := none }, accessFlags := 2, code := some k3c5 }
/-- com/example/tidx/tidx/index/Run -/
def k3 : Class := { plain "com/example/tidx/tidx/index/Run" (some 0) with
  accessFlags := 48
  interfaces := #[2]
  cf := some (fileOf pool3 10 #[] #[{ accessFlags := 0, nameIndex := 5, descriptorIndex := 140, attributes := #[] }, { accessFlags := 0, nameIndex := 143, descriptorIndex := 6, attributes := #[] }, { accessFlags := 0, nameIndex := 144, descriptorIndex := 145, attributes := #[] }, { accessFlags := 0, nameIndex := 144, descriptorIndex := 72, attributes := #[] }, { accessFlags := 0, nameIndex := 147, descriptorIndex := 148, attributes := #[] }, { accessFlags := 2, nameIndex := 71, descriptorIndex := 72, attributes := #[] }] 48 2 #[135] #[{ accessFlags := 26, nameIndex := 137, descriptorIndex := 42, attributes := #[] }, { accessFlags := 18, nameIndex := 37, descriptorIndex := 38, attributes := #[] }, { accessFlags := 2, nameIndex := 13, descriptorIndex := 14, attributes := #[] }, { accessFlags := 2, nameIndex := 19, descriptorIndex := 20, attributes := #[] }, { accessFlags := 2, nameIndex := 23, descriptorIndex := 8, attributes := #[] }, { accessFlags := 2, nameIndex := 26, descriptorIndex := 8, attributes := #[] }, { accessFlags := 2, nameIndex := 51, descriptorIndex := 42, attributes := #[] }, { accessFlags := 2, nameIndex := 54, descriptorIndex := 42, attributes := #[] }, { accessFlags := 2, nameIndex := 29, descriptorIndex := 8, attributes := #[] }, { accessFlags := 2, nameIndex := 34, descriptorIndex := 16, attributes := #[] }, { accessFlags := 2, nameIndex := 41, descriptorIndex := 42, attributes := #[] }, { accessFlags := 2, nameIndex := 57, descriptorIndex := 58, attributes := #[] }, { accessFlags := 2, nameIndex := 61, descriptorIndex := 8, attributes := #[] }, { accessFlags := 2, nameIndex := 97, descriptorIndex := 42, attributes := #[] }, { accessFlags := 2, nameIndex := 71, descriptorIndex := 42, attributes := #[] }, { accessFlags := 2, nameIndex := 111, descriptorIndex := 42, attributes := #[] }])
  fields := #[{ name := "SPREAD", type := .int, accessFlags := 26, slot := 0, constantValue := 0 }, { name := "valued", type := .boolean, accessFlags := 18, slot := 0, constantValue := 0 }, { name := "rows", type := (.array (.array .int)), accessFlags := 2, slot := 1, constantValue := 0 }, { name := "values", type := (.array (.array (.array (.object "java/lang/Object")))), accessFlags := 2, slot := 2, constantValue := 0 }, { name := "from", type := (.array .int), accessFlags := 2, slot := 3, constantValue := 0 }, { name := "to", type := (.array .int), accessFlags := 2, slot := 4, constantValue := 0 }, { name := "slices", type := .int, accessFlags := 2, slot := 5, constantValue := 0 }, { name := "size", type := .int, accessFlags := 2, slot := 6, constantValue := 0 }, { name := "own", type := (.array .int), accessFlags := 2, slot := 7, constantValue := 0 }, { name := "ownValues", type := (.array (.array (.object "java/lang/Object"))), accessFlags := 2, slot := 8, constantValue := 0 }, { name := "owned", type := .int, accessFlags := 2, slot := 9, constantValue := 0 }, { name := "sorted", type := (.array .long), accessFlags := 2, slot := 10, constantValue := 0 }, { name := "placed", type := (.array .int), accessFlags := 2, slot := 11, constantValue := 0 }, { name := "shift", type := .int, accessFlags := 2, slot := 12, constantValue := 0 }, { name := "slice", type := .int, accessFlags := 2, slot := 13, constantValue := 0 }, { name := "next", type := .int, accessFlags := 2, slot := 14, constantValue := 0 }]
  methods := #[k3m0, k3m1, k3m2, k3m3, k3m4, k3m5]
  instanceTypes := #[.boolean, (.array (.array .int)), (.array (.array (.array (.object "java/lang/Object")))), (.array .int), (.array .int), .int, .int, (.array .int), (.array (.array (.object "java/lang/Object"))), .int, (.array .long), (.array .int), .int, .int, .int]
  staticTypes := #[.int]
  resolved := Array.replicate 162 none
  statics := none }

def pool4 : Array CpInfo := pool [(2, .class_ 4), (1, u "java/lang/Object"), (0, u "<init>"), (0, u "()V"), (6, .methodref 14 15), (0, .class_ 16), (0, .nameAndType 17 18), (0, u "java/util/Arrays"), (0, u "rangeCheck"), (0, u "(III)V"), (55, .class_ 76), (1, u "java/util/Arrays$NaturalOrder"), (36, .class_ 115), (1, u "java/util/Arrays$LegacyMergeSort"), (1, u "Z"), (257, .class_ 376), (0, u "java/util/Arrays$ArrayList"), (68, u "$assertionsDisabled"), (269, u "MIN_ARRAY_SORT_GRAN"), (0, u "I"), (2, u "INSERTIONSORT_THRESHOLD"), (120, u "fill"), (18, u "([Ljava/lang/Object;IILjava/lang/Object;)V"), (115, .class_ 976), (0, u "java/util/Arrays$ArrayItr")] 52

def k4m0 : Method := { name := "<init>", desc := "()V", sig := { parameters := [], returnType := none }, accessFlags := 2, code := none }
def k4c1 : Code := { maxStack := 4, maxLocals := 3, code := jdk_65_method_30_code, exceptionTable := #[], attributes := #[] }
def k4m1 : Method := { name := "rangeCheck", desc := "(III)V", sig := { parameters := [.int, .int, .int], returnType := none }, accessFlags := 8, code := some k4c1 }
def k4c2 : Code := { maxStack := 3, maxLocals := 5, code := jdk_65_method_118_code, exceptionTable := #[], attributes := #[] }
def k4m2 : Method := { name := "fill", desc := "([Ljava/lang/Object;IILjava/lang/Object;)V", sig := { parameters := [(.array (.object "java/lang/Object")), .int, .int, (.object "java/lang/Object")], returnType := none }, accessFlags := 9, code := some k4c2 }
/-- java/util/Arrays -/
def k4 : Class := { plain "java/util/Arrays" (some 0) with
  accessFlags := 49
  interfaces := #[]
  cf := some (fileOf pool4 14 #[.nestMembers #[975, 375, 113, 74]] #[{ accessFlags := 2, nameIndex := 5, descriptorIndex := 6, attributes := #[] }, { accessFlags := 8, nameIndex := 17, descriptorIndex := 18, attributes := #[] }, { accessFlags := 9, nameIndex := 840, descriptorIndex := 859, attributes := #[] }] 49 2 #[] #[{ accessFlags := 26, nameIndex := 715, descriptorIndex := 716, attributes := #[] }, { accessFlags := 26, nameIndex := 719, descriptorIndex := 716, attributes := #[] }, { accessFlags := 4120, nameIndex := 445, descriptorIndex := 117, attributes := #[] }])
  fields := #[{ name := "MIN_ARRAY_SORT_GRAN", type := .int, accessFlags := 26, slot := 0, constantValue := 0 }, { name := "INSERTIONSORT_THRESHOLD", type := .int, accessFlags := 26, slot := 1, constantValue := 0 }, { name := "$assertionsDisabled", type := .boolean, accessFlags := 4120, slot := 2, constantValue := 0 }]
  methods := #[k4m0, k4m1, k4m2]
  instanceTypes := #[]
  staticTypes := #[.int, .int, .boolean]
  resolved := Array.replicate 1029 none
  statics := none }

def pool5 : Array CpInfo := pool [(1, .class_ 2), (0, u "java/lang/Math"), (1, .class_ 6), (1, u "java/lang/Object"), (0, u "<init>"), (0, u "()V"), (89, .class_ 100), (1, u "java/lang/Math$RandomNumberGeneratorHolder"), (71, u "negativeZeroFloatBits"), (0, u "J"), (2, u "negativeZeroDoubleBits"), (24, u "min"), (43, u "$assertionsDisabled"), (0, u "Z"), (88, u "(II)I"), (2, u "twoToTheDoubleScaleDown"), (0, u "D"), (4, u "twoToTheDoubleScaleUp"), (9, u "E"), (3, u "PI"), (2, u "TAU"), (2, u "DEGREES_TO_RADIANS"), (0, u "RADIANS_TO_DEGREES")] 94

def k5m0 : Method := { name := "<init>", desc := "()V", sig := { parameters := [], returnType := none }, accessFlags := 2, code := none }
def k5c1 : Code := { maxStack := 2, maxLocals := 2, code := jdk_29_method_69_code, exceptionTable := #[], attributes := #[] }
def k5m1 : Method := { name := "min", desc := "(II)I", sig := { parameters := [.int, .int], returnType := some .int }, accessFlags := 9, code := some k5c1 }
/-- java/lang/Math -/
def k5 : Class := { plain "java/lang/Math" (some 0) with
  accessFlags := 49
  interfaces := #[]
  cf := some (fileOf pool5 1 #[.nestMembers #[98]] #[{ accessFlags := 2, nameIndex := 7, descriptorIndex := 8, attributes := #[] }, { accessFlags := 9, nameIndex := 201, descriptorIndex := 335, attributes := #[] }] 49 4 #[] #[{ accessFlags := 25, nameIndex := 354, descriptorIndex := 339, attributes := #[] }, { accessFlags := 25, nameIndex := 358, descriptorIndex := 339, attributes := #[] }, { accessFlags := 25, nameIndex := 361, descriptorIndex := 339, attributes := #[] }, { accessFlags := 26, nameIndex := 364, descriptorIndex := 339, attributes := #[] }, { accessFlags := 26, nameIndex := 365, descriptorIndex := 339, attributes := #[] }, { accessFlags := 26, nameIndex := 172, descriptorIndex := 173, attributes := #[] }, { accessFlags := 26, nameIndex := 176, descriptorIndex := 173, attributes := #[] }, { accessFlags := 8, nameIndex := 344, descriptorIndex := 339, attributes := #[] }, { accessFlags := 8, nameIndex := 338, descriptorIndex := 339, attributes := #[] }, { accessFlags := 4120, nameIndex := 245, descriptorIndex := 246, attributes := #[] }])
  fields := #[{ name := "E", type := .double, accessFlags := 25, slot := 0, constantValue := 0 }, { name := "PI", type := .double, accessFlags := 25, slot := 1, constantValue := 0 }, { name := "TAU", type := .double, accessFlags := 25, slot := 2, constantValue := 0 }, { name := "DEGREES_TO_RADIANS", type := .double, accessFlags := 26, slot := 3, constantValue := 0 }, { name := "RADIANS_TO_DEGREES", type := .double, accessFlags := 26, slot := 4, constantValue := 0 }, { name := "negativeZeroFloatBits", type := .long, accessFlags := 26, slot := 5, constantValue := 0 }, { name := "negativeZeroDoubleBits", type := .long, accessFlags := 26, slot := 6, constantValue := 0 }, { name := "twoToTheDoubleScaleUp", type := .double, accessFlags := 8, slot := 7, constantValue := 0 }, { name := "twoToTheDoubleScaleDown", type := .double, accessFlags := 8, slot := 8, constantValue := 0 }, { name := "$assertionsDisabled", type := .boolean, accessFlags := 4120, slot := 9, constantValue := 0 }]
  methods := #[k5m0, k5m1]
  instanceTypes := #[]
  staticTypes := #[.double, .double, .double, .double, .double, .long, .long, .double, .double, .boolean]
  resolved := Array.replicate 460 none
  statics := none }

def pool6 : Array CpInfo := pool [(1, u "java/lang/Cloneable"), (0, .class_ 1), (0, u "java/lang/Object"), (0, .class_ 3)] 3

/-- java/lang/Cloneable -/
def k6 : Class := { plain "java/lang/Cloneable" (some 0) with
  accessFlags := 1537
  interfaces := #[]
  cf := some (fileOf pool6 2 #[] #[] 1537 4 #[] #[])
  fields := #[]
  methods := #[]
  instanceTypes := #[]
  staticTypes := #[]
  resolved := Array.replicate 8 none
  statics := none }

def pool7 : Array CpInfo := pool [(1, u "java/io/Serializable"), (0, .class_ 1), (0, u "java/lang/Object"), (0, .class_ 3)] 3

/-- java/io/Serializable -/
def k7 : Class := { plain "java/io/Serializable" (some 0) with
  accessFlags := 1537
  interfaces := #[]
  cf := some (fileOf pool7 2 #[] #[] 1537 4 #[] #[])
  fields := #[]
  methods := #[]
  instanceTypes := #[]
  staticTypes := #[]
  resolved := Array.replicate 8 none
  statics := none }

/-- the primitive byte -/
def k8 : Class := { plain "byte" none with kind := .primitive 'B', accessFlags := 0x411 }
/-- [B -/
def k9 : Class := { plain "[B" (some 0) with kind := .array 8 .byte, interfaces := #[6, 7], accessFlags := 1041 }

/-- the primitive int -/
def k10 : Class := { plain "int" none with kind := .primitive 'I', accessFlags := 0x411 }
/-- [I -/
def k11 : Class := { plain "[I" (some 0) with kind := .array 10 .int, interfaces := #[6, 7], accessFlags := 1041 }

/-- [Ljava/lang/Object; -/
def k12 : Class := { plain "[Ljava/lang/Object;" (some 0) with kind := .array 0 (.object "java/lang/Object"), interfaces := #[6, 7], accessFlags := 1041 }

/-- [[I -/
def k13 : Class := { plain "[[I" (some 0) with kind := .array 11 (.array .int), interfaces := #[6, 7], accessFlags := 1041 }
/-- [[Ljava/lang/Object; -/
def k14 : Class := { plain "[[Ljava/lang/Object;" (some 0) with kind := .array 12 (.array (.object "java/lang/Object")), interfaces := #[6, 7], accessFlags := 1041 }
/-- [[[Ljava/lang/Object; -/
def k15 : Class := { plain "[[[Ljava/lang/Object;" (some 0) with kind := .array 14 (.array (.array (.object "java/lang/Object"))), interfaces := #[6, 7], accessFlags := 1041 }
def heap : Heap := #[]
def classes : Array Class := #[k0, k1, k2, k3, k4, k5, k6, k7, k8, k9, k10, k11, k12, k13, k14, k15]
def interned : List (Array UInt16 × Addr) := []
def slotsUsed : Nat := 0
def theMethod : MethodId := ⟨1, 1⟩
def args0 : Array Value := #[.int 5, .int 7, .int 3, .int 1, .int 2]
def aboutOver (below : List Frame) : State where
  vm := { classes := classes, interned := interned.toArray }
  heap := heap
  slotsUsed := slotsUsed
  threads := #[{ frames := .invoking theMethod args0 :: below }]
def below0 : List Frame := [.native { method := ⟨0, 0⟩, args := #[] }]
def about1 : State := aboutOver below0
def p0 : Program := .bare "" "" ""
def e0 : Env := launch0.env 0 0 0
theorem w_frames : about1.frames = Frame.invoking theMethod args0 :: below0 := rfl
set_option maxRecDepth 65536 in
theorem w_args : argsFit about1.vm theMethod args0 = true := by decide +kernel
set_option maxRecDepth 65536 in
theorem w_heap : heapFits about1 = true := by decide +kernel
set_option maxRecDepth 65536 in
theorem w_runnable : about1.curStatus? = some .runnable := by decide +kernel
set_option maxRecDepth 65536 in
theorem w_alone : about1.alone = true := by decide +kernel
set_option maxRecDepth 65536 in
theorem w_named : about1.methodNamed? x = some theMethod := by decide +kernel
set_option maxRecDepth 65536 in
theorem w_hears : about1.hears theMethod below0 = true := by decide +kernel
set_option maxRecDepth 65536 in
theorem w_ripe : about1.ripe theMethod args0 below0 = true := by decide +kernel
theorem w_running : about1.status = .running := rfl
set_option maxRecDepth 65536 in
theorem w_room : about1.hasRoom e0.platform room_1 = true :=
  launch0.hasRoom_least _ room_1 (by decide +kernel) (by decide +kernel) (by decide +kernel) (by decide +kernel) (by decide +kernel) (by decide +kernel)
theorem allAtoms_all (ts : List Jvm.Cond) (a : Array Jvm.Value) (st : Jvm.State) : (allAtoms ts).before a st = ts.all (fun c => c.before a st) := by
  induction ts with
  | nil => rfl
  | cons c t ih =>
    show (Jvm.Cond.and c (allAtoms t)).before a st = _
    rw [Jvm.Cond.before_and, ih, List.all_cons]
def words1 : List Jvm.Cond := Jvm.Cond.code x code maxLocals ret :: tables_1
/-- a 'code' word, met by the world's own term for the bytes: nothing is compared byte by byte -/
theorem code_word {y : MethodName} {bytes : ByteArray} {mx : Nat} {rt : Option FieldType} {a : Array Value} {s : State} {m : MethodId} {meth : Method} {c : Code} (h1 : s.methodNamed? y = some m) (h2 : s.vm.method? m = some meth) (h3 : meth.code = some c) (h4 : c.code = bytes)
    (h5 : (c.maxLocals == mx && c.exceptionTable.isEmpty && decide (c.maxStack ≤ mostOperands) && decide (meth.sig.returnType = rt) && !meth.locks && decide (parseMethodDescriptor y.desc = some meth.sig)) = true) : (Jvm.Cond.code y bytes mx rt).before a s = true := by
  simp only [Bool.and_eq_true, beq_iff_eq, Bool.not_eq_true', decide_eq_true_eq] at h5
  obtain ⟨⟨⟨⟨⟨g1, g2⟩, g3⟩, g4⟩, g5⟩, g6⟩ := h5
  simp [Cond.before, Cond.holds, Cond.value, h1, h2, h3, h4, g1, g2, g3, g4, g5, g6]
def isCode : Jvm.Cond → Bool
  | .code _ _ _ _ => true
  | _ => false
theorem all_split {L : List Jvm.Cond} {P : Jvm.Cond → Bool} (h1 : L.all (fun c => isCode c || P c) = true) (h2 : ∀ c ∈ L.filter isCode, P c = true) : L.all P = true := by
  refine List.all_eq_true.mpr fun c hc => ?_
  have h := List.all_eq_true.mp h1 c hc
  rcases Bool.eq_false_or_eq_true (isCode c) with hi | hi
  · exact h2 c (List.mem_filter.mpr ⟨hc, hi⟩)
  · simpa [hi] using h
set_option maxRecDepth 65536 in
theorem w_c0 : (Jvm.Cond.code x code maxLocals ret).before args0 about1 = true := code_word (m := ⟨1, 1⟩) (meth := k1m1) (c := k1c1) (by decide +kernel) rfl rfl rfl (by decide +kernel)
set_option maxRecDepth 65536 in
theorem w_c1 : (Jvm.Cond.code ({ cls := "com/example/tidx/tidx/index/Run", name := "<init>", desc := "(Z)V" } : Jvm.MethodName) prog_95_method_1_code (2 : Nat) (Option.none : Option Jvm.ClassFile.FieldType)).before args0 about1 = true := code_word (m := ⟨3, 0⟩) (meth := k3m0) (c := k3c0) (by decide +kernel) rfl rfl rfl (by decide +kernel)
set_option maxRecDepth 65536 in
theorem w_c2 : (Jvm.Cond.code ({ cls := "java/lang/Object", name := "<init>", desc := "()V" } : Jvm.MethodName) object_method_1_code (1 : Nat) (Option.none : Option Jvm.ClassFile.FieldType)).before args0 about1 = true := code_word (m := ⟨0, 0⟩) (meth := k0m0) (c := k0c0) (by decide +kernel) rfl rfl rfl (by decide +kernel)
set_option maxRecDepth 65536 in
theorem w_c3 : (Jvm.Cond.code ({ cls := "com/example/tidx/tidx/index/Run", name := "first", desc := "()[Ljava/lang/Object;" } : Jvm.MethodName) prog_95_method_5_code (1 : Nat) (Option.some (Jvm.ClassFile.FieldType.array (Jvm.ClassFile.FieldType.object "java/lang/Object")))).before args0 about1 = true := code_word (m := ⟨3, 4⟩) (meth := k3m4) (c := k3c4) (by decide +kernel) rfl rfl rfl (by decide +kernel)
set_option maxRecDepth 65536 in
theorem w_c4 : (Jvm.Cond.code ({ cls := "com/example/tidx/tidx/index/RunFirstPinLaw", name := "step", desc := "(Lcom/example/tidx/tidx/index/Run;II[Ljava/lang/Object;[I[[Ljava/lang/Object;[Ljava/lang/Object;)Z" } : Jvm.MethodName) method_3_code (10 : Nat) (Option.some Jvm.ClassFile.FieldType.boolean)).before args0 about1 = true := code_word (m := ⟨1, 2⟩) (meth := k1m2) (c := k1c2) (by decide +kernel) rfl rfl rfl (by decide +kernel)
set_option maxRecDepth 65536 in
theorem w_c5 : (Jvm.Cond.code ({ cls := "com/example/tidx/tidx/index/Run", name := "add", desc := "(I[Ljava/lang/Object;)V" } : Jvm.MethodName) prog_95_method_3_code (3 : Nat) (Option.none : Option Jvm.ClassFile.FieldType)).before args0 about1 = true := code_word (m := ⟨3, 2⟩) (meth := k3m2) (c := k3c2) (by decide +kernel) rfl rfl rfl (by decide +kernel)
set_option maxRecDepth 65536 in
theorem w_c6 : (Jvm.Cond.code ({ cls := "com/example/tidx/tidx/index/Run", name := "slice", desc := "([I[[Ljava/lang/Object;II)V" } : Jvm.MethodName) prog_95_method_13_code (6 : Nat) (Option.none : Option Jvm.ClassFile.FieldType)).before args0 about1 = true := code_word (m := ⟨3, 5⟩) (meth := k3m5) (c := k3c5) (by decide +kernel) rfl rfl rfl (by decide +kernel)
set_option maxRecDepth 65536 in
theorem w_c7 : (Jvm.Cond.code ({ cls := "com/example/tidx/tidx/index/Run", name := "clear", desc := "()V" } : Jvm.MethodName) prog_95_method_2_code (1 : Nat) (Option.none : Option Jvm.ClassFile.FieldType)).before args0 about1 = true := code_word (m := ⟨3, 1⟩) (meth := k3m1) (c := k3c1) (by decide +kernel) rfl rfl rfl (by decide +kernel)
set_option maxRecDepth 65536 in
theorem w_c8 : (Jvm.Cond.code ({ cls := "java/util/Arrays", name := "fill", desc := "([Ljava/lang/Object;IILjava/lang/Object;)V" } : Jvm.MethodName) jdk_65_method_118_code (5 : Nat) (Option.none : Option Jvm.ClassFile.FieldType)).before args0 about1 = true := code_word (m := ⟨4, 2⟩) (meth := k4m2) (c := k4c2) (by decide +kernel) rfl rfl rfl (by decide +kernel)
set_option maxRecDepth 65536 in
theorem w_c9 : (Jvm.Cond.code ({ cls := "java/util/Arrays", name := "rangeCheck", desc := "(III)V" } : Jvm.MethodName) jdk_65_method_30_code (3 : Nat) (Option.none : Option Jvm.ClassFile.FieldType)).before args0 about1 = true := code_word (m := ⟨4, 1⟩) (meth := k4m1) (c := k4c1) (by decide +kernel) rfl rfl rfl (by decide +kernel)
set_option maxRecDepth 65536 in
theorem w_c10 : (Jvm.Cond.code ({ cls := "java/lang/Math", name := "min", desc := "(II)I" } : Jvm.MethodName) jdk_29_method_69_code (2 : Nat) (Option.some Jvm.ClassFile.FieldType.int)).before args0 about1 = true := code_word (m := ⟨5, 1⟩) (meth := k5m1) (c := k5c1) (by decide +kernel) rfl rfl rfl (by decide +kernel)
set_option maxRecDepth 65536 in
theorem w_c11 : (Jvm.Cond.code ({ cls := "com/example/tidx/tidx/index/Run", name := "add", desc := "([I[[Ljava/lang/Object;II)V" } : Jvm.MethodName) prog_95_method_4_code (5 : Nat) (Option.none : Option Jvm.ClassFile.FieldType)).before args0 about1 = true := code_word (m := ⟨3, 3⟩) (meth := k3m3) (c := k3c3) (by decide +kernel) rfl rfl rfl (by decide +kernel)
def codes1 : List Jvm.Cond := [Jvm.Cond.code x code maxLocals ret, Jvm.Cond.code ({ cls := "com/example/tidx/tidx/index/Run", name := "<init>", desc := "(Z)V" } : Jvm.MethodName) prog_95_method_1_code (2 : Nat) (Option.none : Option Jvm.ClassFile.FieldType), Jvm.Cond.code ({ cls := "java/lang/Object", name := "<init>", desc := "()V" } : Jvm.MethodName) object_method_1_code (1 : Nat) (Option.none : Option Jvm.ClassFile.FieldType), Jvm.Cond.code ({ cls := "com/example/tidx/tidx/index/Run", name := "first", desc := "()[Ljava/lang/Object;" } : Jvm.MethodName) prog_95_method_5_code (1 : Nat) (Option.some (Jvm.ClassFile.FieldType.array (Jvm.ClassFile.FieldType.object "java/lang/Object"))), Jvm.Cond.code ({ cls := "com/example/tidx/tidx/index/RunFirstPinLaw", name := "step", desc := "(Lcom/example/tidx/tidx/index/Run;II[Ljava/lang/Object;[I[[Ljava/lang/Object;[Ljava/lang/Object;)Z" } : Jvm.MethodName) method_3_code (10 : Nat) (Option.some Jvm.ClassFile.FieldType.boolean), Jvm.Cond.code ({ cls := "com/example/tidx/tidx/index/Run", name := "add", desc := "(I[Ljava/lang/Object;)V" } : Jvm.MethodName) prog_95_method_3_code (3 : Nat) (Option.none : Option Jvm.ClassFile.FieldType), Jvm.Cond.code ({ cls := "com/example/tidx/tidx/index/Run", name := "slice", desc := "([I[[Ljava/lang/Object;II)V" } : Jvm.MethodName) prog_95_method_13_code (6 : Nat) (Option.none : Option Jvm.ClassFile.FieldType), Jvm.Cond.code ({ cls := "com/example/tidx/tidx/index/Run", name := "clear", desc := "()V" } : Jvm.MethodName) prog_95_method_2_code (1 : Nat) (Option.none : Option Jvm.ClassFile.FieldType), Jvm.Cond.code ({ cls := "java/util/Arrays", name := "fill", desc := "([Ljava/lang/Object;IILjava/lang/Object;)V" } : Jvm.MethodName) jdk_65_method_118_code (5 : Nat) (Option.none : Option Jvm.ClassFile.FieldType), Jvm.Cond.code ({ cls := "java/util/Arrays", name := "rangeCheck", desc := "(III)V" } : Jvm.MethodName) jdk_65_method_30_code (3 : Nat) (Option.none : Option Jvm.ClassFile.FieldType), Jvm.Cond.code ({ cls := "java/lang/Math", name := "min", desc := "(II)I" } : Jvm.MethodName) jdk_29_method_69_code (2 : Nat) (Option.some Jvm.ClassFile.FieldType.int), Jvm.Cond.code ({ cls := "com/example/tidx/tidx/index/Run", name := "add", desc := "([I[[Ljava/lang/Object;II)V" } : Jvm.MethodName) prog_95_method_4_code (5 : Nat) (Option.none : Option Jvm.ClassFile.FieldType)]
set_option maxRecDepth 65536 in
theorem codes_eq : words1.filter isCode = codes1 := rfl
theorem w_codes : ∀ c ∈ words1.filter isCode, c.before args0 about1 = true := by
  rw [codes_eq]
  intro c hc
  simp only [codes1, List.mem_cons, List.not_mem_nil, or_false] at hc
  rcases hc with rfl | rfl | rfl | rfl | rfl | rfl | rfl | rfl | rfl | rfl | rfl | rfl
  · exact w_c0
  · exact w_c1
  · exact w_c2
  · exact w_c3
  · exact w_c4
  · exact w_c5
  · exact w_c6
  · exact w_c7
  · exact w_c8
  · exact w_c9
  · exact w_c10
  · exact w_c11
set_option maxRecDepth 65536 in
theorem w_t1 : (words1.take 24).all (fun c => isCode c || c.before args0 about1) = true := by decide +kernel
set_option maxRecDepth 65536 in
theorem w_t2 : ((words1.drop 24).take 24).all (fun c => isCode c || c.before args0 about1) = true := by decide +kernel
set_option maxRecDepth 65536 in
theorem w_t3 : (((words1.drop 24).drop 24).take 24).all (fun c => isCode c || c.before args0 about1) = true := by decide +kernel
set_option maxRecDepth 65536 in
theorem w_t4 : (((words1.drop 24).drop 24).drop 24).all (fun c => isCode c || c.before args0 about1) = true := by decide +kernel
theorem w_tables : (allAtoms (Jvm.Cond.code x code maxLocals ret :: tables_1)).before args0 about1 = true := by
  rw [allAtoms_all]
  show words1.all (fun c => c.before args0 about1) = true
  refine all_split ?_ w_codes
  rw [← List.take_append_drop 24 words1, List.all_append, w_t1, ← List.take_append_drop 24 (words1.drop 24), List.all_append, w_t2, ← List.take_append_drop 24 ((words1.drop 24).drop 24), List.all_append, w_t3, w_t4]
  rfl
set_option maxRecDepth 65536 in
theorem w_case : (Jvm.Cond.and given_1 narrow_1).before args0 about1 = true := by decide +kernel
theorem w_applies : (headSpec (Jvm.Cond.code x code maxLocals ret :: tables_1) room_1).applies x e0.platform about1 = true :=
  (Spec.applies_iff w_frames).mpr ⟨w_running, w_runnable, w_alone, w_named, w_hears, w_ripe, w_room, w_tables⟩
theorem atStart : AtStart classFile x code maxLocals ret World_1 tables_1 room_1 Calls_1 rest_1 Pre_1 launch0 p0 e0 about1 theMethod args0 below0 :=
  ⟨lists_1, trivial, launch0.admits_env _ _ _, launch0.least_env, fairChoices_fair.cas, fairChoices_fair.clock, w_frames, w_args, w_heap, w_applies, trivial, trivial, w_case⟩
end start1
theorem witness_1 : WitnessClaimed_1 := ⟨start1.p0, start1.e0, start1.about1, start1.theMethod, start1.args0, start1.below0, start1.atStart⟩
end Jvm.Pilot.@@N@@
