import JvmDerived
import JvmDerived.Pilot.@@N@@Statement
import JvmDerived.Pilot.@@N@@Code
set_option linter.unusedVariables false
set_option linter.unusedSimpArgs false
namespace Jvm.Pilot.@@N@@
open Jvm Jvm.ClassFile Sem Op Lib Jvm.Free Jvm.Stand Jvm.LawKit Jvm.RoadKit Bundle Jvm.Pilot.@@N@@.Jvm.D
section Own
variable {p : Program} {l : Launch} {e : Env} {R : Room} {s : State} {m : MethodId} {args : Array Value} {below : List Frame} {meth : Method} {c : Code} {T : State} {cells slots : Nat} {Z : State} {a0 : Array Value} {h h' h0 : Heap} {ws ws' : List Addr}
  {own nm : String} {bytes : ByteArray} {maxL : Nat} {rt : Option FieldType} {W : State → Outcome → Prop} {pc : Nat} {Ls : Array Slot} {rest : List Value}
/-- the run from A ends as W says -/
def OwnDone (p : Program) (e : Env) (below : List Frame) (W : State → Outcome → Prop) (A : State) : Prop :=
  ∃ s₂ o, Steps p.tables e below A s₂ ∧ s₂.status = .running ∧ Ended s₂ below o ∧ W s₂ o
theorem OwnDone.go {A B : State} (h : ∀ t, Steps p.tables e below A t → Steps p.tables e below B t) (k : OwnDone p e below W A) : OwnDone p e below W B := by
  obtain ⟨s₂, o, h1, h2⟩ := k
  exact ⟨s₂, o, h _ h1, h2⟩
/-- how a body ends: what it returns and leaves (Q), and that it wrote nothing older than its start but the objects ws -/
def OwnEnds (s Z : State) (ws : List Addr) (h0 : Heap) (Q : Option Value → Heap → Prop) (k n : Nat) (s₂ : State) (o : Outcome) : Prop :=
  ∃ v L, o = .returned v ∧ (Q v s₂.heap ∧ Keep h0 s₂.heap ws ∧ ∀ y ∈ L, y.base ∈ ws ∨ h0.size ≤ y.base) ∧ FrameEnd s o s₂ L k n
/-- the surroundings of a walk -/
def OwnCx (p : Program) (Z s : State) (m : MethodId) (meth : Method) (c : Code) (own nm : String) (bytes : ByteArray) (maxL : Nat) (rt : Option FieldType) : Prop :=
  p.tables.exec = Jvm.exec ∧ Z.Warmed39 s.vm ∧ s.vm.findClass own = some m.cls ∧ meth.name = nm ∧ c.code = bytes ∧ c.maxLocals = maxL ∧ meth.sig.returnType = rt ∧ meth.locks = false
/-- where the walk stands -/
def OwnPos (p : Program) (l : Launch) (e : Env) (R : Room) (s : State) (m : MethodId) (args : Array Value) (below : List Frame) (meth : Method) (c : Code) (Z : State) (ws : List Addr) (h0 : Heap) (T : State) (h : Heap) (cells slots : Nat) : Prop :=
  ∃ locs, Stand p l e R s m args below meth c T locs cells slots ∧ T.heap = h ∧ s.heap = h0 ∧ (∀ y ∈ locs, y.base ∈ ws ∨ h0.size ≤ y.base) ∧ Ext Z.heap h0 ∧ ∀ a ∈ ws, Z.heap.size ≤ a
theorem OwnPos.here (P : OwnPos p l e R s m args below meth c Z ws h0 T h cells slots) : At T m c below := by
  obtain ⟨_, X, _⟩ := P; exact X.here
theorem OwnPos.keep (P : OwnPos p l e R s m args below meth c Z ws h0 T h cells slots) : Keep h0 h ws := by
  obtain ⟨locs, X, rfl, rfl, N, -, -⟩ := P
  have hs := X.same
  have far : ∀ (x : Addr) (c : Cell), s.heap[x]? = some c → x ∉ ws → ∀ i, (⟨x, i⟩ : Loc) ∉ locs := fun x c hx hn i hi => by
    rcases N _ hi with q | q
    · exact hn q
    · exact absurd (Array.getElem?_eq_some_iff.mp hx).1 (Nat.not_lt.mpr q)
  refine ⟨hs.2.1, fun x c hx hn => ?_, fun x c hx => ?_⟩
  · obtain ⟨c', h1, h2, h3, h4⟩ := hs.2.2.2.2.2 x c hx
    have e1 : c'.slots = c.slots := by
      apply Array.ext_getElem?
      intro i
      exact h4 i (far x c hx hn i)
    have e2 : c' = c := by rw [h2, e1]
    exact e2 ▸ h1
  · obtain ⟨c', h1, h2, h3, h4⟩ := hs.2.2.2.2.2 x c hx
    exact ⟨c', h1, by rw [h2], by rw [h2], h3⟩
theorem OwnPos.old (P : OwnPos p l e R s m args below meth c Z ws h0 T h cells slots) : Ext Z.heap h := by
  have K := P.keep
  obtain ⟨locs, X, eT, e0, N, E0, G0⟩ := P
  refine ⟨Nat.le_trans E0.1 K.1, fun a c ha => K.2.1 a c (E0.2 a c ha) fun q => ?_⟩
  exact absurd (Array.getElem?_eq_some_iff.mp ha).1 (Nat.not_lt.mpr (G0 a q))
theorem OwnPos.ge (P : OwnPos p l e R s m args below meth c Z ws h0 T h cells slots) : Z.heap.size ≤ h.size := P.old.1
/-- a method's contract -/
def OwnMeets (l : Launch) (y : MethodName) (bytes : ByteArray) (maxL : Nat) (rt : Option FieldType) (rm : Room) (Z : State) (ws : List Addr) (as : Array Value) (h0 : Heap) (Q : Option Value → Heap → Prop) : Prop :=
  ∀ wz, MetFree l y (head1 (Cond.code y bytes maxL rt :: wz) rm) (fun a U => a = as ∧ Z.Warmed39 U.vm ∧ U.heap = h0) (fun _ _ _ _ _ => True) (fun _ U o U' => ∃ v L, o = .returned v ∧ (Q v U'.heap ∧ Keep h0 U'.heap ws ∧ ∀ y ∈ L, y.base ∈ ws ∨ h0.size ≤ y.base) ∧ FrameEnd U o U' L rm.cells rm.slots)
theorem OwnMeets.of {y : MethodName} {rm : Room} {as : Array Value} {Q : Option Value → Heap → Prop} (hp : plainFor y = true) (hE : Ext Z.heap h0) (hG : ∀ a ∈ ws, Z.heap.size ≤ a)
    (body : ∀ p e s m below meth c T, OwnCx p Z s m meth c y.cls y.name bytes maxL rt → OwnPos p l e rm s m as below meth c Z ws h0 T h0 0 0 → OwnDone p e below (OwnEnds s Z ws h0 Q rm.cells rm.slots) (T.setTop (entryFrame m as maxL))) :
    OwnMeets l y bytes maxL rt rm Z ws as h0 Q := by
  intro wz
  refine MetFree.of_bodySF hp hisR ?_
  intro p e s m args below meth c s₁ Bd hml hP hK
  obtain ⟨rfl, hZ, hh⟩ := hP
  exact body p e s m below meth c s₁ ⟨Bd.exec, hZ, findClass_of_methodNamed Bd.named, (name_of_methodNamed Bd.named Bd.method).1, Bd.bytes, hml, Bd.returns, Bd.notSynchronized⟩ ⟨_, Stand.of_body Bd, by rw [← hh, Bd.state]; rfl, hh, fun _ q => (nomatch q), hE, hG⟩

/-! the returns -/
theorem own_retN {Q : Option Value → Heap → Prop} {k n : Nat} {t : FieldType} {z z' : Int32} (C : OwnCx p Z s m meth c own nm bytes maxL (some t)) (P : OwnPos p l e R s m args below meth c Z ws h0 T h cells slots)
    (ht : t = .boolean ∨ t = .byte ∨ t = .char ∨ t = .short) (hz : nar t z = z') (hd : decode bytes pc = .ok (.ireturn, 1)) (hk : cells ≤ k) (hn : slots ≤ n) (hQ : Q (some (.int z')) h) :
    OwnDone p e below (OwnEnds s Z ws h0 Q k n) (T.setTop (mkF m pc Ls (.int z :: rest))) := by
  have kp := P.keep
  obtain ⟨hx, hZ, hown, hnm, hby, hml, hret, hlk⟩ := C
  obtain ⟨locs, X, eT, e0, N, E0, G0⟩ := P
  subst eT
  subst hz
  obtain ⟨fs, hr, hrun, hended, hW, hsame⟩ := X.leave (v := some (.int (nar t z))) (fun h => by rw [hret] at h; cases h) hlk
  exact ⟨_, _, Jvm.RoadKit.retN X hx hret ht (hb hby hd) hr, hrun, hended, _, _, rfl, ⟨hQ, kp, N⟩, ⟨_, rfl⟩, hW, hsame.mono hk hn⟩

theorem own_retI {Q : Option Value → Heap → Prop} {k n : Nat} {z : Int32} (C : OwnCx p Z s m meth c own nm bytes maxL (some .int)) (P : OwnPos p l e R s m args below meth c Z ws h0 T h cells slots)
    (hd : decode bytes pc = .ok (.ireturn, 1)) (hk : cells ≤ k) (hn : slots ≤ n) (hQ : Q (some (.int z)) h) :
    OwnDone p e below (OwnEnds s Z ws h0 Q k n) (T.setTop (mkF m pc Ls (.int z :: rest))) := by
  have kp := P.keep
  obtain ⟨hx, hZ, hown, hnm, hby, hml, hret, hlk⟩ := C
  obtain ⟨locs, X, eT, e0, N, E0, G0⟩ := P
  subst eT
  obtain ⟨fs, hr, hrun, hended, hW, hsame⟩ := X.leave (v := some (.int z)) (fun h => by rw [hret] at h; cases h) hlk
  exact ⟨_, _, retOut X hx hret rfl (Or.inl ⟨rfl, Or.inl rfl, z, rfl⟩) (hb hby hd) hr, hrun, hended, _, _, rfl, ⟨hQ, kp, N⟩, ⟨_, rfl⟩, hW, hsame.mono hk hn⟩

theorem own_retJ {Q : Option Value → Heap → Prop} {k n : Nat} {z : Int64} (C : OwnCx p Z s m meth c own nm bytes maxL (some .long)) (P : OwnPos p l e R s m args below meth c Z ws h0 T h cells slots)
    (hd : decode bytes pc = .ok (.lreturn, 1)) (hk : cells ≤ k) (hn : slots ≤ n) (hQ : Q (some (.long z)) h) :
    OwnDone p e below (OwnEnds s Z ws h0 Q k n) (T.setTop (mkF m pc Ls (.long z :: rest))) := by
  have kp := P.keep
  obtain ⟨hx, hZ, hown, hnm, hby, hml, hret, hlk⟩ := C
  obtain ⟨locs, X, eT, e0, N, E0, G0⟩ := P
  subst eT
  obtain ⟨fs, hr, hrun, hended, hW, hsame⟩ := X.leave (v := some (.long z)) (fun h => by rw [hret] at h; cases h) hlk
  exact ⟨_, _, retOut X hx hret rfl (Or.inr (Or.inl ⟨rfl, rfl, z, rfl⟩)) (hb hby hd) hr, hrun, hended, _, _, rfl, ⟨hQ, kp, N⟩, ⟨_, rfl⟩, hW, hsame.mono hk hn⟩

theorem own_retA {Q : Option Value → Heap → Prop} {k n : Nat} {w : Value} {t : FieldType} (C : OwnCx p Z s m meth c own nm bytes maxL (some t)) (P : OwnPos p l e R s m args below meth c Z ws h0 T h cells slots)
    (ht : t.isReference = true) (hw : w.isRef = true) (hd : decode bytes pc = .ok (.areturn, 1)) (hk : cells ≤ k) (hn : slots ≤ n) (hQ : Q (some w) h) :
    OwnDone p e below (OwnEnds s Z ws h0 Q k n) (T.setTop (mkF m pc Ls (w :: rest))) := by
  have kp := P.keep
  obtain ⟨hx, hZ, hown, hnm, hby, hml, hret, hlk⟩ := C
  obtain ⟨locs, X, eT, e0, N, E0, G0⟩ := P
  subst eT
  obtain ⟨fs, hr, hrun, hended, hW, hsame⟩ := X.leave (v := some w) (fun h => by rw [hret] at h; cases h) hlk
  have hnr : narrow t w = w := by cases t <;> first | (cases ht; done) | rfl
  exact ⟨_, _, retOut X hx hret hnr (Or.inr (Or.inr (Or.inr (Or.inr ⟨rfl, ht, hw⟩)))) (hb hby hd) hr, hrun, hended, _, _, rfl, ⟨hQ, kp, N⟩, ⟨_, rfl⟩, hW, hsame.mono hk hn⟩

theorem own_retV {Q : Option Value → Heap → Prop} {k n : Nat}  (C : OwnCx p Z s m meth c own nm bytes maxL none) (P : OwnPos p l e R s m args below meth c Z ws h0 T h cells slots)
    (hd : decode bytes pc = .ok (.return_, 1)) (hk : cells ≤ k) (hn : slots ≤ n) (hQ : Q (none) h) :
    OwnDone p e below (OwnEnds s Z ws h0 Q k n) (T.setTop (mkF m pc Ls [])) := by
  have kp := P.keep
  obtain ⟨hx, hZ, hown, hnm, hby, hml, hret, hlk⟩ := C
  obtain ⟨locs, X, eT, e0, N, E0, G0⟩ := P
  subst eT
  obtain ⟨fs, hr, hrun, hended, hW, hsame⟩ := X.leave (v := none) (fun _ => rfl) hlk
  exact ⟨_, _, X.returnOut hx hret (hb hby hd) hr, hrun, hended, _, _, rfl, ⟨hQ, kp, N⟩, ⟨_, rfl⟩, hW, hsame.mono hk hn⟩

/-! single steps that ask the tables or the heap -/
theorem own_ldc {target : State} {index : Nat} {v : Int32} (C : OwnCx p Z s m meth c own nm bytes maxL rt) (P : OwnPos p l e R s m args below meth c Z ws h0 T h cells slots)
    (w : (Cond.constant own index v).before a0 Z = true) (hd : decode bytes pc = .ok (.ldc index, 2))
    (k : Steps p.tables e below (T.setTop (mkF m (pc + 2) Ls (.int v :: rest))) target) : Steps p.tables e below (T.setTop (mkF m pc Ls rest)) target := by
  obtain ⟨hx, hZ, hown, hnm, hby, hml, hret, hlk⟩ := C
  obtain ⟨locs, X, eT, e0, N, E0, G0⟩ := P
  exact X.ldcInt hx hown (mvT hZ w) (g := mkF m pc Ls rest) rfl (hb hby hd) target k
theorem own_irem {target : State} {x y : Int32} (C : OwnCx p Z s m meth c own nm bytes maxL rt) (P : OwnPos p l e R s m args below meth c Z ws h0 T h cells slots)
    (hy : y ≠ 0) (hd : decode bytes pc = .ok (.irem, 1))
    (k : Steps p.tables e below (T.setTop (mkF m (pc + 1) Ls (.int (x % y) :: rest))) target) : Steps p.tables e below (T.setTop (mkF m pc Ls (.int y :: .int x :: rest))) target := by
  obtain ⟨hx, hZ, hown, hnm, hby, hml, hret, hlk⟩ := C
  obtain ⟨locs, X, eT, e0, N, E0, G0⟩ := P
  exact iremM X hx (g := mkF m pc Ls (.int y :: .int x :: rest)) rfl (hb hby hd) rfl hy k
theorem own_getF {R0 O n d host : String} {index : Nat} {a : Addr} {v : Value} (C : OwnCx p Z s m meth c own nm bytes maxL rt) (P : OwnPos p l e R s m args below meth c Z ws h0 T h cells slots)
    (w : (Cond.fieldLink own index R0 n d).before a0 Z = true ∨ (Cond.fieldLinkNest own index R0 n d host).before a0 Z = true) (via : Via Z R0 O n d) (F : Fld Z h a O n d v) (hd : decode bytes pc = .ok (.getfield index, 3))
    (K : ∀ T', OwnPos p l e R s m args below meth c Z ws h0 T' h cells slots → OwnDone p e below W (T'.setTop (mkF m (pc + 3) Ls (v :: rest)))) : OwnDone p e below W (T.setTop (mkF m pc Ls (.ref a :: rest))) := by
  obtain ⟨hx, hZ, hown, hnm, hby, hml, hret, hlk⟩ := C
  obtain ⟨locs, X, eT, e0, N, E0, G0⟩ := P
  obtain ⟨T', X', e', st⟩ := getF X hx hZ hown w via eT F (g := mkF m pc Ls (.ref a :: rest)) rfl rfl (hb hby hd)
  exact OwnDone.go st (K T' ⟨_, X', e', e0, N, E0, G0⟩)
theorem own_getS {R0 O n d host : String} {index : Nat} {v : Value} (C : OwnCx p Z s m meth c own nm bytes maxL rt) (P : OwnPos p l e R s m args below meth c Z ws h0 T h cells slots)
    (w : (Cond.fieldLink own index R0 n d).before a0 Z = true ∨ (Cond.fieldLinkNest own index R0 n d host).before a0 Z = true) (via : Via Z R0 O n d) (F : Sta Z Z.heap O n d v) (hd : decode bytes pc = .ok (.getstatic index, 3))
    (K : ∀ T', OwnPos p l e R s m args below meth c Z ws h0 T' h cells slots → OwnDone p e below W (T'.setTop (mkF m (pc + 3) Ls (v :: rest)))) : OwnDone p e below W (T.setTop (mkF m pc Ls rest)) := by
  have F := F.ext P.old
  obtain ⟨hx, hZ, hown, hnm, hby, hml, hret, hlk⟩ := C
  obtain ⟨locs, X, eT, e0, N, E0, G0⟩ := P
  obtain ⟨T', X', e', st⟩ := getS2 X hx hZ hown w via eT F (g := mkF m pc Ls rest) rfl (hb hby hd)
  exact OwnDone.go st (K T' ⟨_, X', e', e0, N, E0, G0⟩)
/-! calls, by the callee's contract -/
theorem own_callS {y : MethodName} {yb : ByteArray} {ym : Nat} {yr : Option FieldType} {rm : Room} {Q : Option Value → Heap → Prop} {index wd : Nat} {st : List Value} {as : List Value}
    (C : OwnCx p Z s m meth c own nm bytes maxL rt) (P : OwnPos p l e R s m args below meth c Z ws h0 T h cells slots)
    (w1 : (Cond.methodLink own index y).before a0 Z = true) (w2 : (Cond.static y).before a0 Z = true) (w3 : (Cond.initialized y.cls).before a0 Z = true) (w4 : (Cond.code y yb ym yr).before a0 Z = true)
    (hy : y.cls ≠ "java/lang/invoke/MethodHandle" ∧ y.cls ≠ "java/lang/invoke/VarHandle") (M : OwnMeets l y yb ym yr rm Z ws' as.toArray h Q) {ps : List FieldType} {pr : Option FieldType} (hpd : parseMethodDescriptor y.desc = some ⟨ps, pr⟩) (hlen : as.length = ps.length)
    (hst : st = as.reverse ++ rest) (hwd : (rest.map fun v => v.category).sum = wd) (hsz : Ls.size = maxL) (hd : decode bytes pc = .ok (.invokestatic index, 3))
    (hsub : ∀ a ∈ ws', a ∈ ws ∨ h0.size ≤ a) (hf : rm.frames + 1 ≤ R.frames) (hl : wd + (ym + 11) + rm.locals ≤ R.locals) (hc : cells + rm.cells ≤ R.cells) (hs : slots + rm.slots ≤ R.slots)
    (K : ∀ T' h' v, OwnPos p l e R s m args below meth c Z ws h0 T' h' (cells + rm.cells) (slots + rm.slots) → Keep h h' ws' → Q v h' → OwnDone p e below W (T'.setTop (mkF m (pc + 3) Ls (v.toList ++ rest)))) : OwnDone p e below W (T.setTop (mkF m pc Ls st)) := by
  have kp := P.keep
  obtain ⟨hx, hZ, hown, hnm, hby, hml, hret, hlk⟩ := C
  obtain ⟨locs, X, eT, e0, N, E0, G0⟩ := P
  obtain ⟨v, _, ⟨T', L', k', n'⟩, -, X', ⟨Lc, ⟨hQ, hK, NQ⟩, l1, l2, l3⟩, stp⟩ := Jvm.LawKit.callS X hx (y := y) hown (mvT hZ w1) (mvT hZ w2) (mvT hZ w3) (mvT hZ w4) hy (backOf (W := wd) (Q := fun v h2 L => Q v h2 ∧ Keep h h2 ws' ∧ ∀ y ∈ L, y.base ∈ ws' ∨ h.size ≤ y.base) (M []) hZ w4 w3 hf hl) (g := mkF m pc Ls st) rfl (by rw [hml]; exact hsz) (argsL := as) (rest := rest) (lenOf hpd hlen) hst (by show 2 * 0 + _ ≤ _; omega) (hb hby hd) (fun _ _ => ⟨rfl, eT, hc, hs⟩)
  dsimp only [Pt.U, Pt.locs, Pt.cells, Pt.slots] at X' l1 l2 l3 stp hQ hK
  subst l1 l2 l3
  have NN : ∀ y ∈ locs ++ Lc, y.base ∈ ws ∨ h0.size ≤ y.base := fun y hy => by
    rcases List.mem_append.mp hy with q | q
    · exact N y q
    · rcases NQ y q with q | q
      · exact hsub _ q
      · exact Or.inr (Nat.le_trans kp.1 q)
  exact OwnDone.go stp (K T' _ v ⟨_, X', rfl, e0, NN, E0, G0⟩ hK hQ)

theorem own_callV {y z : MethodName} {yb : ByteArray} {ym : Nat} {yr : Option FieldType} {rm : Room} {Q : Option Value → Heap → Prop} {index wd : Nat} {st : List Value} {as : List Value} {b : Addr} {CC : String}
    (C : OwnCx p Z s m meth c own nm bytes maxL rt) (P : OwnPos p l e R s m args below meth c Z ws h0 T h cells slots) (E : Exa Z h b CC)
    (w1 : (Cond.methodLink own index y).before a0 Z = true) (w2 : (Cond.declares y).before a0 Z = true) (nf : (Cond.selects y.cls y y).before a0 Z = true) (w5 : (Cond.selects CC y z).before a0 Z = true) (w6 : (Cond.instanceMethod z).before a0 Z = true) (w3 : (Cond.initialized z.cls).before a0 Z = true) (w4 : (Cond.code z yb ym yr).before a0 Z = true)
    (hy : y.cls ≠ "java/lang/invoke/MethodHandle" ∧ y.cls ≠ "java/lang/invoke/VarHandle") (M : OwnMeets l z yb ym yr rm Z ws' (.ref b :: as).toArray h Q) {ps : List FieldType} {pr : Option FieldType} (hpd : parseMethodDescriptor y.desc = some ⟨ps, pr⟩) (hlen : as.length = ps.length)
    (hst : st = as.reverse ++ .ref b :: rest) (hwd : (rest.map fun v => v.category).sum = wd) (hsz : Ls.size = maxL) (hd : decode bytes pc = .ok (.invokevirtual index, 3))
    (hsub : ∀ a ∈ ws', a ∈ ws ∨ h0.size ≤ a) (hf : rm.frames + 1 ≤ R.frames) (hl : wd + (ym + 11) + rm.locals ≤ R.locals) (hc : cells + rm.cells ≤ R.cells) (hs : slots + rm.slots ≤ R.slots)
    (K : ∀ T' h' v, OwnPos p l e R s m args below meth c Z ws h0 T' h' (cells + rm.cells) (slots + rm.slots) → Keep h h' ws' → Q v h' → OwnDone p e below W (T'.setTop (mkF m (pc + 3) Ls (v.toList ++ rest)))) : OwnDone p e below W (T.setTop (mkF m pc Ls st)) := by
  have kp := P.keep
  obtain ⟨hx, hZ, hown, hnm, hby, hml, hret, hlk⟩ := C
  obtain ⟨locs, X, eT, e0, N, E0, G0⟩ := P
  obtain ⟨cq, kq, qa, qb, qc⟩ := isOf hZ eT E
  obtain ⟨v, _, ⟨T', L', k', n'⟩, -, X', ⟨Lc, ⟨hQ, hK, NQ⟩, l1, l2, l3⟩, stp⟩ := X.virtualBack hx (y := y) (z := z) hown (mvT hZ w1) (mvT hZ w2) (notFace_of_selects (args := #[]) (mvT hZ nf)) (mvT hZ w5) (mvT hZ w6) hy (backOf (W := wd) (Q := fun v h2 L => Q v h2 ∧ Keep h h2 ws' ∧ ∀ y ∈ L, y.base ∈ ws' ∨ h.size ≤ y.base) (M []) hZ w4 w3 hf hl) qa qc (g := mkF m pc Ls st) rfl (by rw [hml]; exact hsz) (Steps.refl _) (argsL := as) (rest := rest) (lenOf hpd hlen) hst (by show 2 * 0 + _ ≤ _; omega) (hb hby hd) (fun _ _ => ⟨rfl, eT, hc, hs⟩)
  dsimp only [Pt.U, Pt.locs, Pt.cells, Pt.slots] at X' l1 l2 l3 stp hQ hK
  subst l1 l2 l3
  have NN : ∀ y ∈ locs ++ Lc, y.base ∈ ws ∨ h0.size ≤ y.base := fun y hy => by
    rcases List.mem_append.mp hy with q | q
    · exact N y q
    · rcases NQ y q with q | q
      · exact hsub _ q
      · exact Or.inr (Nat.le_trans kp.1 q)
  exact OwnDone.go (fun _ k => stp.trans k) (K T' _ v ⟨_, X', rfl, e0, NN, E0, G0⟩ hK hQ)

theorem own_callI {y : MethodName} {yb : ByteArray} {ym : Nat} {rm : Room} {Q : Option Value → Heap → Prop} {index wd : Nat} {st : List Value} {as : List Value} {b : Addr}
    (C : OwnCx p Z s m meth c own nm bytes maxL rt) (P : OwnPos p l e R s m args below meth c Z ws h0 T h cells slots) (hin : y.name = "<init>")
    (w1 : (Cond.methodLink own index y).before a0 Z = true) (w2 : (Cond.instanceMethod y).before a0 Z = true) (w3 : (Cond.initialized y.cls).before a0 Z = true) (w4 : (Cond.code y yb ym none).before a0 Z = true)
    (hy : y.cls ≠ "java/lang/invoke/MethodHandle" ∧ y.cls ≠ "java/lang/invoke/VarHandle") (M : OwnMeets l y yb ym none rm Z ws' (.ref b :: as).toArray h Q) {ps : List FieldType} {pr : Option FieldType} (hpd : parseMethodDescriptor y.desc = some ⟨ps, pr⟩) (hlen : as.length = ps.length)
    (hst : st = as.reverse ++ .ref b :: rest) (hwd : (rest.map fun v => v.category).sum = wd) (hsz : Ls.size = maxL) (hd : decode bytes pc = .ok (.invokespecial index, 3))
    (hsub : ∀ a ∈ ws', a ∈ ws ∨ h0.size ≤ a) (hf : rm.frames + 1 ≤ R.frames) (hl : wd + (ym + 11) + rm.locals ≤ R.locals) (hc : cells + rm.cells ≤ R.cells) (hs : slots + rm.slots ≤ R.slots)
    (K : ∀ T' h' v, OwnPos p l e R s m args below meth c Z ws h0 T' h' (cells + rm.cells) (slots + rm.slots) → Keep h h' ws' → Q v h' → OwnDone p e below W (T'.setTop (mkF m (pc + 3) Ls (v.toList ++ rest)))) : OwnDone p e below W (T.setTop (mkF m pc Ls st)) := by
  have kp := P.keep
  obtain ⟨hx, hZ, hown, hnm, hby, hml, hret, hlk⟩ := C
  obtain ⟨locs, X, eT, e0, N, E0, G0⟩ := P
  obtain ⟨v, _, ⟨T', L', k', n'⟩, -, X', ⟨Lc, ⟨hQ, hK, NQ⟩, l1, l2, l3⟩, stp⟩ := X.specialBack hx (y := y) hin hown (mvT hZ w1) (mvT hZ w2) (mvT hZ w4) hy (backOf (W := wd) (Q := fun v h2 L => Q v h2 ∧ Keep h h2 ws' ∧ ∀ y ∈ L, y.base ∈ ws' ∨ h.size ≤ y.base) (M []) hZ w4 w3 hf hl) (g := mkF m pc Ls st) rfl (by rw [hml]; exact hsz) (Steps.refl _) (a := b) (argsL := as) (rest := rest) (lenOf hpd hlen) hst (by show 2 * 0 + _ ≤ _; omega) (hb hby hd) (fun _ _ => ⟨rfl, eT, hc, hs⟩)
  dsimp only [Pt.U, Pt.locs, Pt.cells, Pt.slots] at X' l1 l2 l3 stp hQ hK
  subst l1 l2 l3
  have NN : ∀ y ∈ locs ++ Lc, y.base ∈ ws ∨ h0.size ≤ y.base := fun y hy => by
    rcases List.mem_append.mp hy with q | q
    · exact N y q
    · rcases NQ y q with q | q
      · exact hsub _ q
      · exact Or.inr (Nat.le_trans kp.1 q)
  exact OwnDone.go (fun _ k => stp.trans k) (K T' _ v ⟨_, X', rfl, e0, NN, E0, G0⟩ hK hQ)

theorem own_callP {y : MethodName} {yb : ByteArray} {ym : Nat} {yr : Option FieldType} {rm : Room} {Q : Option Value → Heap → Prop} {index wd : Nat} {st : List Value} {as : List Value} {b : Addr} {CC : String}
    (C : OwnCx p Z s m meth c own nm bytes maxL rt) (P : OwnPos p l e R s m args below meth c Z ws h0 T h cells slots) (E : Exa Z h b CC)
    (w1 : (Cond.methodLink own index y).before a0 Z = true) (w2 : (Cond.instanceMethod y).before a0 Z = true) {nI : Nat} (wi : (Cond.instantiable y.cls nI).before a0 Z = true) (w6 : (Cond.privateMethod y).before a0 Z = true) (w3 : (Cond.initialized y.cls).before a0 Z = true) (w4 : (Cond.code y yb ym yr).before a0 Z = true)
    (hy : y.cls ≠ "java/lang/invoke/MethodHandle" ∧ y.cls ≠ "java/lang/invoke/VarHandle") (M : OwnMeets l y yb ym yr rm Z ws' (.ref b :: as).toArray h Q) {ps : List FieldType} {pr : Option FieldType} (hpd : parseMethodDescriptor y.desc = some ⟨ps, pr⟩) (hlen : as.length = ps.length)
    (hst : st = as.reverse ++ .ref b :: rest) (hwd : (rest.map fun v => v.category).sum = wd) (hsz : Ls.size = maxL) (hd : decode bytes pc = .ok (.invokevirtual index, 3))
    (hsub : ∀ a ∈ ws', a ∈ ws ∨ h0.size ≤ a) (hf : rm.frames + 1 ≤ R.frames) (hl : wd + (ym + 11) + rm.locals ≤ R.locals) (hc : cells + rm.cells ≤ R.cells) (hs : slots + rm.slots ≤ R.slots)
    (K : ∀ T' h' v, OwnPos p l e R s m args below meth c Z ws h0 T' h' (cells + rm.cells) (slots + rm.slots) → Keep h h' ws' → Q v h' → OwnDone p e below W (T'.setTop (mkF m (pc + 3) Ls (v.toList ++ rest)))) : OwnDone p e below W (T.setTop (mkF m pc Ls st)) := by
  have kp := P.keep
  obtain ⟨hx, hZ, hown, hnm, hby, hml, hret, hlk⟩ := C
  obtain ⟨locs, X, eT, e0, N, E0, G0⟩ := P
  obtain ⟨cq, qa, qb⟩ := E.cell
  obtain ⟨ci, ki, i1, i2, i3, i4, -⟩ := Cond.instantiable_spec (mvT (args := args) hZ wi)
  have hni : ki.isInterface = false := by
    simp only [Bool.or_eq_false_iff] at i4; exact i4.1
  obtain ⟨v, _, ⟨T', L', k', n'⟩, -, X', ⟨Lc, ⟨hQ, hK, NQ⟩, l1, l2, l3⟩, stp⟩ := X.privateBack hx (y := y) hown (mvT hZ w1) (mvT hZ w2) (selects_self_of_private i1 i2 hni (Cond.privateMethod_at (mvP hZ w6 (args := #[]))) (mvT hZ w2) hy) (Cond.privateMethod_at (mvP hZ w6 (args := #[]))) (mvT hZ w4) hy (backOf (W := wd) (Q := fun v h2 L => Q v h2 ∧ Keep h h2 ws' ∧ ∀ y ∈ L, y.base ∈ ws' ∨ h.size ≤ y.base) (M []) hZ w4 w3 hf hl) (g := mkF m pc Ls st) rfl (by rw [hml]; exact hsz) (Steps.refl _) (a := b) (by rw [eT]; exact qa) qb (argsL := as) (rest := rest) (lenOf hpd hlen) hst (by show 2 * 0 + _ ≤ _; omega) (hb hby hd) (fun _ _ => ⟨rfl, eT, hc, hs⟩)
  dsimp only [Pt.U, Pt.locs, Pt.cells, Pt.slots] at X' l1 l2 l3 stp hQ hK
  subst l1 l2 l3
  have NN : ∀ y ∈ locs ++ Lc, y.base ∈ ws ∨ h0.size ≤ y.base := fun y hy => by
    rcases List.mem_append.mp hy with q | q
    · exact N y q
    · rcases NQ y q with q | q
      · exact hsub _ q
      · exact Or.inr (Nat.le_trans kp.1 q)
  exact OwnDone.go (fun _ k => stp.trans k) (K T' _ v ⟨_, X', rfl, e0, NN, E0, G0⟩ hK hQ)

theorem own_initO {index wd : Nat} {a : Addr} (C : OwnCx p Z s m meth c own nm bytes maxL rt) (P : OwnPos p l e R s m args below meth c Z ws h0 T h cells slots)
    (w1 : (Cond.methodLink own index Lib.objectInit).before a0 Z = true) (w2 : (Cond.instanceMethod Lib.objectInit).before a0 Z = true) (w3 : (Cond.code Lib.objectInit ⟨#[0xb1]⟩ 1 none).before a0 Z = true)
    (hwd : (rest.map fun v => v.category).sum = wd) (hsz : Ls.size = maxL) (hd : decode bytes pc = .ok (.invokespecial index, 3)) (hf : 1 ≤ R.frames) (hl : wd + 12 ≤ R.locals)
    (K : ∀ T', OwnPos p l e R s m args below meth c Z ws h0 T' h cells slots → OwnDone p e below W (T'.setTop (mkF m (pc + 3) Ls rest))) : OwnDone p e below W (T.setTop (mkF m pc Ls (.ref a :: rest))) := by
  obtain ⟨hx, hZ, hown, hnm, hby, hml, hret, hlk⟩ := C
  obtain ⟨locs, X, eT, e0, N, E0, G0⟩ := P
  obtain ⟨T', X', e', st⟩ := initO X hx hZ hown w1 w2 w3 eT (g := mkF m pc Ls (.ref a :: rest)) rfl (by rw [hml]; exact hsz) rfl (hb hby hd) hf (W := wd) (by show 2 * 0 + _ ≤ _; omega) hl
  exact OwnDone.go st (K T' ⟨_, X', e', e0, N, E0, G0⟩)
theorem own_w0 : (([] : List Value).map fun v => v.category).sum = 0 := rfl
theorem own_w1 {v : Value} {L : List Value} {c n k : Nat} (h : v.category = c) (r : (L.map fun v => v.category).sum = n) (e : c + n = k) : ((v :: L).map fun v => v.category).sum = k := by
  rw [List.map_cons, List.sum_cons, r, h, e]
theorem own_neL {x y : Addr} (h : @LT.lt Nat _ x y ∨ @LT.lt Nat _ y x) : x ≠ y := fun q => by subst q; rcases h with h | h <;> exact absurd h (Nat.lt_irrefl _)
theorem own_nb {z : Int32} (h : z = 0 ∨ z = 1) : narrow .boolean (.int z) = .int z := by rcases h with rfl | rfl <;> rfl
theorem own_fb {z : Int32} (h : z = 0 ∨ z = 1) : fits .boolean (.int z) = true := by rcases h with rfl | rfl <;> rfl
theorem own_nref {t : FieldType} {v : Value} (ht : t.isReference = true) : narrow t v = v := by cases t <;> first | (cases ht; done) | rfl
theorem own_fref {t : FieldType} {v : Value} (ht : t.isReference = true) (hv : v.isRef = true) : fits t v = true := by
  cases t <;> first | (cases ht; done) | (cases v <;> first | (cases hv; done) | rfl)
/-! objects: all their fields at once -/
def OwnObj (Z : State) (h : Heap) (a : Addr) (C : String) (lay : List (String × String × String)) (vs : List Value) : Prop :=
  Exa Z h a C ∧ ∀ (i : Nat) (O n d : String) (v : Value), lay[i]? = some (O, n, d) → vs[i]? = some v → Fld Z h a O n d v
/-- the sheet lays these fields; their names are unlike -/
def OwnLaid (Z : State) (a0 : Array Value) (C : String) (lay : List (String × String × String)) : Prop :=
  (∀ q ∈ lay, Laid Z a0 C q.1 q.2.1 q.2.2) ∧ (lay.map fun q => q.2.1).Nodup ∧ ∀ q ∈ lay, ∃ t, parseFieldDescriptor q.2.2 = some t
section Obj
variable {a b : Addr} {CC : String} {lay : List (String × String × String)} {vs vs' : List Value}
theorem OwnObj.lt (F : OwnObj Z h a CC lay vs) : a < h.size := F.1.lt
theorem OwnObj.keep (F : OwnObj Z h a CC lay vs) (K : Keep h h' ws) (q : a ∉ ws) : OwnObj Z h' a CC lay vs :=
  ⟨F.1.keep K, fun i O n d v h1 h2 => (F.2 i O n d v h1 h2).keep K q⟩
theorem own_names (nd : (lay.map fun q => q.2.1).Nodup) {i j : Nat} {O n d O' n' d' : String} (hi : lay[i]? = some (O, n, d)) (hj : lay[j]? = some (O', n', d')) (ne : i ≠ j) : n ≠ n' := fun e => by
  have hl : i < (lay.map fun q => q.2.1).length := by simpa using (List.getElem?_eq_some_iff.mp hi).1
  refine ne ((List.getElem?_inj hl nd).mp ?_)
  simp [hi, hj, e]
theorem OwnObj.put {O n d : String} {v : Value} (F : OwnObj Z h a CC lay vs) (LL : OwnLaid Z a0 CC lay) (W : Wr h h' a (Jvm.RoadKit.slotOf Z O n d) v) (i : Nat) (hi : lay[i]? = some (O, n, d)) (hv : vs.set i v = vs') : OwnObj Z h' a CC lay vs' := by
  subst hv
  refine ⟨F.1.wr W, fun j O' n' d' v' h1 h2 => ?_⟩
  by_cases q : i = j
  · subst q
    cases hi.symm.trans h1
    have hl : i < vs.length := by
      have := (List.getElem?_eq_some_iff.mp h2).1
      simpa using this
    rw [List.getElem?_set_self hl] at h2
    cases h2
    exact (F.2 i _ _ _ _ h1 (List.getElem?_eq_getElem hl)).same W
  · rw [List.getElem?_set_ne q] at h2
    obtain ⟨t, ht⟩ := LL.2.2 (O, n, d) (List.mem_of_getElem? hi)
    obtain ⟨t', ht'⟩ := LL.2.2 (O', n', d') (List.mem_of_getElem? h1)
    have L1 : Laid Z a0 CC O' n' d' := LL.1 (O', n', d') (List.mem_of_getElem? h1)
    have L2 : Laid Z a0 CC O n d := LL.1 (O, n, d) (List.mem_of_getElem? hi)
    have t1 : parseFieldDescriptor d' = some t' := ht'
    have t2 : parseFieldDescriptor d = some t := ht
    have nn : n' ≠ n := own_names LL.2.1 h1 hi (Ne.symm q)
    have sn := Jvm.RoadKit.slot_ne L1 L2 nn t1 t2
    exact (F.2 j O' n' d' v' h1 h2).other W (Or.inr sn)
theorem own_new {n index : Nat} (C : OwnCx p Z s m meth c own nm bytes maxL rt) (P : OwnPos p l e R s m args below meth c Z ws h0 T h cells slots)
    (w : (Cond.classLink own index CC).before a0 Z = true) (wi : (Cond.instantiable CC n).before a0 Z = true) (wz : (Cond.initialized CC).before a0 Z = true) (LL : OwnLaid Z a0 CC lay)
    (hv : lay.map (fun q => (parseFieldDescriptor q.2.2).map defaultValue) = vs.map some) (hd : decode bytes pc = .ok (.new index, 3)) (hc : cells + 1 ≤ R.cells) (hl : slots + n ≤ R.slots)
    (K : ∀ T' h' a, a = h.size → a < h'.size → OwnPos p l e R s m args below meth c Z ws h0 T' h' (cells + 1) (slots + n) → Keep h h' [] → OwnObj Z h' a CC lay vs → OwnDone p e below W (T'.setTop (mkF m (pc + 3) Ls (.ref a :: rest)))) : OwnDone p e below W (T.setTop (mkF m pc Ls rest)) := by
  have kp := P.keep
  obtain ⟨hx, hZ, hown, hnm, hby, hml, hret, hlk⟩ := C
  obtain ⟨locs, X, eT, e0, N, E0, G0⟩ := P
  obtain ⟨T', h', X', e', E', A', D', -, st⟩ := newO X hx hZ hown w wi wz eT (g := mkF m pc Ls rest) rfl (hb hby hd) hc hl
  refine OwnDone.go st (K T' h' h.size rfl A'.lt ⟨_, X', e', e0, N, E0, G0⟩ ((Keep.refl h []).ext E') ⟨A', fun i O n d v h1 h2 => ?_⟩)
  have q : (lay.map (fun q => (parseFieldDescriptor q.2.2).map defaultValue))[i]? = (vs.map some)[i]? := by rw [hv]
  simp only [List.getElem?_map, h1, h2, Option.map_some] at q
  obtain ⟨t, ht⟩ := LL.2.2 _ (List.mem_of_getElem? h1)
  rw [ht] at q
  obtain rfl : defaultValue t = v := by simpa using q
  exact D' (LL.1 _ (List.mem_of_getElem? h1)) ht
theorem own_putO {R0 O n d : String} {index kk : Nat} {ty : FieldType} {v v' : Value} (C : OwnCx p Z s m meth c own nm bytes maxL rt) (P : OwnPos p l e R s m args below meth c Z ws h0 T h cells slots)
    (w : (Cond.fieldLink own index R0 n d).before a0 Z = true) (via : Via Z R0 O n d) (F : OwnObj Z h a CC lay vs) (LL : OwnLaid Z a0 CC lay) (i : Nat) (hi : lay[i]? = some (O, n, d)) {old : Value} (ho : vs[i]? = some old)
    (L : (Cond.lays CC O n d).before a0 Z = true ∨ ((Cond.laysFinal CC O n d).before a0 Z = true ∧ own = O ∧ nm = "<init>")) (wi : (Cond.instantiable CC kk).before a0 Z = true)
    (hty : parseFieldDescriptor d = some ty) (hn : narrow ty v = v') (hf : fits ty v' = true) (hge : a ∈ ws ∨ h0.size ≤ a) (hd : decode bytes pc = .ok (.putfield index, 3)) (hvs : vs.set i v' = vs')
    (K : ∀ T' h', OwnPos p l e R s m args below meth c Z ws h0 T' h' cells slots → Keep h h' [a] → OwnObj Z h' a CC lay vs' → OwnDone p e below W (T'.setTop (mkF m (pc + 3) Ls rest))) : OwnDone p e below W (T.setTop (mkF m pc Ls (v :: .ref a :: rest))) := by
  obtain ⟨hx, hZ, hown, hnm, hby, hml, hret, hlk⟩ := C
  obtain ⟨locs, X, eT, e0, N, E0, G0⟩ := P
  subst hnm
  obtain ⟨T', h', X', e', W', st⟩ := putFN X hx hZ hown w via eT (F.2 i _ _ _ _ hi ho) F.1 L wi hty hn hf (g := mkF m pc Ls (v :: .ref a :: rest)) rfl rfl (hb hby hd)
  have NN : ∀ y ∈ locs ++ [⟨a, Jvm.RoadKit.slotOf Z O n d⟩], y.base ∈ ws ∨ h0.size ≤ y.base := fun y hy => by
    rcases List.mem_append.mp hy with q | q
    · exact N y q
    · cases List.mem_singleton.mp q; exact hge
  exact OwnDone.go st (K T' h' ⟨_, X', e', e0, NN, E0, G0⟩ (Keep.of_wr W') (F.put LL W' i hi hvs))
end Obj
/-! arrays: all their elements at once -/
def OwnAry (Z : State) (h : Heap) (a : Addr) (k : ClassId) (ty : FieldType) (vs : List Value) : Prop := ∃ c : Cell, Arr Z h a c ty ∧ c.cls = k ∧ c.slots.toList = vs
section Ary
variable {a b : Addr} {k : ClassId} {ty : FieldType} {vs vs' : List Value} {j : Int32}
theorem OwnAry.lt (F : OwnAry Z h a k ty vs) : a < h.size := by obtain ⟨c, A, -⟩ := F; exact A.lt
theorem OwnAry.keep (F : OwnAry Z h a k ty vs) (K : Keep h h' ws) (q : a ∉ ws) : OwnAry Z h' a k ty vs := by
  obtain ⟨c, A, r⟩ := F; exact ⟨c, ⟨K.2.1 a c A.1 q, A.2⟩, r⟩
theorem OwnAry.ext (F : OwnAry Z h a k ty vs) (E : Ext h h') : OwnAry Z h' a k ty vs := by obtain ⟨c, A, r⟩ := F; exact ⟨c, A.ext E, r⟩
theorem OwnAry.set {i : Nat} {v : Value} (F : OwnAry Z h a k ty vs) (W : Wr h h' a i v) : OwnAry Z h' a k ty (vs.set i v) := by
  obtain ⟨c, A, r1, r2⟩ := F
  exact ⟨_, A.same W, r1, by rw [← r2]; simp [Cell.setSlot]⟩
theorem own_in {c : Cell} (r : c.slots.toList = vs) (h1 : ¬ j < 0) (h2 : j.toNatClampNeg < vs.length) : ¬ (j < 0 ∨ c.slots.size ≤ j.toNatClampNeg) := by
  have e : c.slots.size = vs.length := by rw [← r]; simp
  rw [e]; rintro (q | q)
  · exact h1 q
  · omega
theorem own_at {c : Cell} {i : Nat} (r : c.slots.toList = vs) : c.slots[i]? = vs[i]? := by rw [← r]; simp
theorem own_cls {cc : Cell} {ad : String} (A : Arr Z h a cc ty) (E : Exa Z h a ad) : Z.vm.findClass ad = some cc.cls := by
  obtain ⟨c1, k1, h1, h2, -⟩ := E
  cases A.1.symm.trans h1
  exact h2
theorem OwnAry.ins {cn : String} (F : OwnAry Z h a k ty vs) (hk : Z.vm.findClass cn = some k) : Ins Z h a cn true := by
  obtain ⟨c1, A, rfl, -⟩ := F
  exact ⟨c1, _, A.1, hk, by simp [A.plain, Vm.assignable_self]⟩
theorem OwnAry.insC {cn C' : String} (F : OwnAry Z h a k ty vs) (hk : Z.vm.findClass cn = some k) (w : (Cond.castable cn C').before a0 Z = true) : Ins Z h a C' true := by
  obtain ⟨c1, A, rfl, -⟩ := F
  obtain ⟨d1, d2, g1, g2, g3⟩ := Cond.castable_spec w
  cases hk.symm.trans g1
  exact ⟨c1, d2, A.1, g2, by simp [A.plain, g3]⟩
theorem own_insK {C' : String} {y : Addr} (I : Ins Z h y C' true) (K : Keep h h' ws) : Ins Z h' y C' true := by
  obtain ⟨c1, cT, h1, h2, h3⟩ := I
  obtain ⟨c2, k1, k2, k3, -⟩ := K.2.2 _ _ h1
  exact ⟨c2, cT, k1, h2, by rw [k2, k3]; exact h3⟩
theorem OwnAry.sto {C' : String} {y : Addr} (F : OwnAry Z h a k ty vs) (O : Ovr Z k C') (I : Ins Z h y C' true) : Sto Z h a (.ref y) := by
  obtain ⟨c1, A, q, -⟩ := F; exact Sto.ofV A q O I
theorem OwnAry.stoA {C' : String} {t : FieldType} {y : Addr} (F : OwnAry Z h a k ty vs) (O : OvrA Z k t C') (I : Ins Z h y C' true) : Sto Z h a (.ref y) := by
  obtain ⟨c1, A, q, -⟩ := F; exact Sto.ofVA A q O I
theorem own_newP {aty : ArrayType} {n : Int32} {cap : Nat} {ad : String} (C : OwnCx p Z s m meth c own nm bytes maxL rt) (P : OwnPos p l e R s m args below meth c Z ws h0 T h cells slots)
    (w : (Cond.arrayClass (newarray.typeOf aty)).before a0 Z = true) (hd : decode bytes pc = .ok (.newarray aty, 2)) (hn : ¬ n < 0) (hcap : n.toNatClampNeg ≤ cap) (hbb : cap * 8 ≤ 536870912) (hvs : List.replicate n.toNatClampNeg (defaultValue (newarray.typeOf aty)) = vs) (had : "[" ++ (newarray.typeOf aty).toString = ad) (hc : cells + 1 ≤ R.cells) (hl : slots + cap ≤ R.slots)
    (K : ∀ T' h' a k, a = h.size → a < h'.size → OwnPos p l e R s m args below meth c Z ws h0 T' h' (cells + 1) (slots + cap) → Keep h h' [] → OwnAry Z h' a k (newarray.typeOf aty) vs → Z.vm.findClass ad = some k → OwnDone p e below W (T'.setTop (mkF m (pc + 2) Ls (.ref a :: rest)))) : OwnDone p e below W (T.setTop (mkF m pc Ls (.int n :: rest))) := by
  obtain ⟨hx, hZ, hown, hnm, hby, hml, hret, hlk⟩ := C
  obtain ⟨locs, X, eT, e0, N, E0, G0⟩ := P
  obtain ⟨T', h', cA, X', e', E', A', EX, st⟩ := newPE X hx hZ w eT (g := mkF m pc Ls (.int n :: rest)) rfl (hb hby hd) rfl hn hcap hbb hc hl had
  exact OwnDone.go st (K T' h' h.size cA rfl A'.lt ⟨_, X', e', e0, N, E0, G0⟩ ((Keep.refl h []).ext E') ⟨_, A', rfl, by rw [← hvs]; simp [newA]⟩ (own_cls A' EX))
theorem own_newR {CC : String} {index : Nat} {n : Int32} {cap : Nat} {ad : String} (C : OwnCx p Z s m meth c own nm bytes maxL rt) (P : OwnPos p l e R s m args below meth c Z ws h0 T h cells slots)
    (w1 : (Cond.classLink own index CC).before a0 Z = true) (w2 : (Cond.arrayOver (.object CC)).before a0 Z = true) (hd : decode bytes pc = .ok (.anewarray index, 3)) (hn : ¬ n < 0) (hcap : n.toNatClampNeg ≤ cap) (hbb : cap * 8 ≤ 536870912) (hvs : List.replicate n.toNatClampNeg Value.null = vs) (had : "[" ++ (FieldType.object CC).toString = ad) (hc : cells + 1 ≤ R.cells) (hl : slots + cap ≤ R.slots)
    (K : ∀ T' h' a k, a = h.size → a < h'.size → OwnPos p l e R s m args below meth c Z ws h0 T' h' (cells + 1) (slots + cap) → Keep h h' [] → OwnAry Z h' a k (.object CC) vs → Z.vm.findClass ad = some k → Ovr Z k CC → OwnDone p e below W (T'.setTop (mkF m (pc + 3) Ls (.ref a :: rest)))) : OwnDone p e below W (T.setTop (mkF m pc Ls (.int n :: rest))) := by
  obtain ⟨hx, hZ, hown, hnm, hby, hml, hret, hlk⟩ := C
  obtain ⟨locs, X, eT, e0, N, E0, G0⟩ := P
  obtain ⟨T', h', cA, X', e', E', A', EX, O', st⟩ := newRE X hx hZ hown w1 w2 eT (g := mkF m pc Ls (.int n :: rest)) rfl (hb hby hd) rfl hn hcap hbb hc hl had
  exact OwnDone.go st (K T' h' h.size cA rfl A'.lt ⟨_, X', e', e0, N, E0, G0⟩ ((Keep.refl h []).ext E') ⟨_, A', rfl, by rw [← hvs]; simp [newA, defaultValue]⟩ (own_cls A' EX) O')
theorem own_newA {CC : String} {t : FieldType} {index : Nat} {n : Int32} {cap : Nat} {ad : String} (C : OwnCx p Z s m meth c own nm bytes maxL rt) (P : OwnPos p l e R s m args below meth c Z ws h0 T h cells slots)
    (hC : (FieldType.array t).toString = CC) (w1 : (Cond.classLink own index CC).before a0 Z = true) (w2 : (Cond.arrayOver (.array t)).before a0 Z = true) (hd : decode bytes pc = .ok (.anewarray index, 3)) (hn : ¬ n < 0) (hcap : n.toNatClampNeg ≤ cap) (hbb : cap * 8 ≤ 536870912) (hvs : List.replicate n.toNatClampNeg Value.null = vs) (had : "[" ++ CC = ad) (hc : cells + 1 ≤ R.cells) (hl : slots + cap ≤ R.slots)
    (K : ∀ T' h' a k, a = h.size → a < h'.size → OwnPos p l e R s m args below meth c Z ws h0 T' h' (cells + 1) (slots + cap) → Keep h h' [] → OwnAry Z h' a k (.array t) vs → Z.vm.findClass ad = some k → OvrA Z k t CC → OwnDone p e below W (T'.setTop (mkF m (pc + 3) Ls (.ref a :: rest)))) : OwnDone p e below W (T.setTop (mkF m pc Ls (.int n :: rest))) := by
  obtain ⟨hx, hZ, hown, hnm, hby, hml, hret, hlk⟩ := C
  obtain ⟨locs, X, eT, e0, N, E0, G0⟩ := P
  obtain ⟨T', h', cA, X', e', E', A', EX, O', st⟩ := newRA X hx hZ hown hC w1 w2 eT (g := mkF m pc Ls (.int n :: rest)) rfl (hb hby hd) rfl hn hcap hbb hc hl had
  exact OwnDone.go st (K T' h' h.size cA rfl A'.lt ⟨_, X', e', e0, N, E0, G0⟩ ((Keep.refl h []).ext E') ⟨_, A', rfl, by rw [← hvs]; simp [newA, defaultValue]⟩ (own_cls A' EX) O')
theorem own_iastore {x : Int32} (C : OwnCx p Z s m meth c own nm bytes maxL rt) (P : OwnPos p l e R s m args below meth c Z ws h0 T h cells slots)
    (F : OwnAry Z h a k .int vs) (h1 : ¬ j < 0) (h2 : j.toNatClampNeg < vs.length) (hge : a ∈ ws ∨ h0.size ≤ a) (hd : decode bytes pc = .ok (.iastore, 1)) (hvs : vs.set j.toNatClampNeg (.int x) = vs')
    (K : ∀ T' h', OwnPos p l e R s m args below meth c Z ws h0 T' h' cells slots → Keep h h' [a] → OwnAry Z h' a k .int vs' → OwnDone p e below W (T'.setTop (mkF m (pc + 1) Ls rest))) : OwnDone p e below W (T.setTop (mkF m pc Ls ((.int x) :: .int j :: .ref a :: rest))) := by
  obtain ⟨hx, hZ, hown, hnm, hby, hml, hret, hlk⟩ := C
  obtain ⟨locs, X, eT, e0, N, E0, G0⟩ := P
  obtain ⟨c0, A0, r1, r2⟩ := id F
  obtain ⟨T', h', X', e', W', st⟩ := stI X hx hZ eT A0 (own_in r2 h1 h2) (g := mkF m pc Ls ((.int x) :: .int j :: .ref a :: rest)) rfl rfl (hb hby hd)
  have NN : ∀ y ∈ locs ++ [⟨a, j.toNatClampNeg⟩], y.base ∈ ws ∨ h0.size ≤ y.base := fun y hy => by
    rcases List.mem_append.mp hy with q | q
    · exact N y q
    · cases List.mem_singleton.mp q; exact hge
  exact OwnDone.go st (K T' h' ⟨_, X', e', e0, NN, E0, G0⟩ (Keep.of_wr W') (hvs ▸ F.set W'))
theorem own_lastore {x : Int64} (C : OwnCx p Z s m meth c own nm bytes maxL rt) (P : OwnPos p l e R s m args below meth c Z ws h0 T h cells slots)
    (F : OwnAry Z h a k .long vs) (h1 : ¬ j < 0) (h2 : j.toNatClampNeg < vs.length) (hge : a ∈ ws ∨ h0.size ≤ a) (hd : decode bytes pc = .ok (.lastore, 1)) (hvs : vs.set j.toNatClampNeg (.long x) = vs')
    (K : ∀ T' h', OwnPos p l e R s m args below meth c Z ws h0 T' h' cells slots → Keep h h' [a] → OwnAry Z h' a k .long vs' → OwnDone p e below W (T'.setTop (mkF m (pc + 1) Ls rest))) : OwnDone p e below W (T.setTop (mkF m pc Ls ((.long x) :: .int j :: .ref a :: rest))) := by
  obtain ⟨hx, hZ, hown, hnm, hby, hml, hret, hlk⟩ := C
  obtain ⟨locs, X, eT, e0, N, E0, G0⟩ := P
  obtain ⟨c0, A0, r1, r2⟩ := id F
  obtain ⟨T', h', X', e', W', st⟩ := stJ X hx hZ eT A0 (own_in r2 h1 h2) (g := mkF m pc Ls ((.long x) :: .int j :: .ref a :: rest)) rfl rfl (hb hby hd)
  have NN : ∀ y ∈ locs ++ [⟨a, j.toNatClampNeg⟩], y.base ∈ ws ∨ h0.size ≤ y.base := fun y hy => by
    rcases List.mem_append.mp hy with q | q
    · exact N y q
    · cases List.mem_singleton.mp q; exact hge
  exact OwnDone.go st (K T' h' ⟨_, X', e', e0, NN, E0, G0⟩ (Keep.of_wr W') (hvs ▸ F.set W'))
theorem own_castore {x : Int32} (C : OwnCx p Z s m meth c own nm bytes maxL rt) (P : OwnPos p l e R s m args below meth c Z ws h0 T h cells slots)
    (F : OwnAry Z h a k .char vs) (h1 : ¬ j < 0) (h2 : j.toNatClampNeg < vs.length) (hge : a ∈ ws ∨ h0.size ≤ a) (hd : decode bytes pc = .ok (.castore, 1)) (hvs : vs.set j.toNatClampNeg (.int (nar .char x)) = vs')
    (K : ∀ T' h', OwnPos p l e R s m args below meth c Z ws h0 T' h' cells slots → Keep h h' [a] → OwnAry Z h' a k .char vs' → OwnDone p e below W (T'.setTop (mkF m (pc + 1) Ls rest))) : OwnDone p e below W (T.setTop (mkF m pc Ls (.int x :: .int j :: .ref a :: rest))) := by
  obtain ⟨hx, hZ, hown, hnm, hby, hml, hret, hlk⟩ := C
  obtain ⟨locs, X, eT, e0, N, E0, G0⟩ := P
  obtain ⟨c0, A0, r1, r2⟩ := id F
  obtain ⟨T', h', X', e', W', st⟩ := stC X hx hZ eT A0 (own_in r2 h1 h2) (g := mkF m pc Ls (.int x :: .int j :: .ref a :: rest)) rfl rfl (hb hby hd)
  have NN : ∀ y ∈ locs ++ [⟨a, j.toNatClampNeg⟩], y.base ∈ ws ∨ h0.size ≤ y.base := fun y hy => by
    rcases List.mem_append.mp hy with q | q
    · exact N y q
    · cases List.mem_singleton.mp q; exact hge
  exact OwnDone.go st (K T' h' ⟨_, X', e', e0, NN, E0, G0⟩ (Keep.of_wr W') (hvs ▸ F.set W'))
theorem own_bastore {x : Int32} (C : OwnCx p Z s m meth c own nm bytes maxL rt) (P : OwnPos p l e R s m args below meth c Z ws h0 T h cells slots)
    (F : OwnAry Z h a k .byte vs) (h1 : ¬ j < 0) (h2 : j.toNatClampNeg < vs.length) (hge : a ∈ ws ∨ h0.size ≤ a) (hd : decode bytes pc = .ok (.bastore, 1)) (hvs : vs.set j.toNatClampNeg (.int (nar .byte x)) = vs')
    (K : ∀ T' h', OwnPos p l e R s m args below meth c Z ws h0 T' h' cells slots → Keep h h' [a] → OwnAry Z h' a k .byte vs' → OwnDone p e below W (T'.setTop (mkF m (pc + 1) Ls rest))) : OwnDone p e below W (T.setTop (mkF m pc Ls (.int x :: .int j :: .ref a :: rest))) := by
  obtain ⟨hx, hZ, hown, hnm, hby, hml, hret, hlk⟩ := C
  obtain ⟨locs, X, eT, e0, N, E0, G0⟩ := P
  obtain ⟨c0, A0, r1, r2⟩ := id F
  obtain ⟨T', h', X', e', W', st⟩ := stB X hx hZ eT A0 (own_in r2 h1 h2) (g := mkF m pc Ls (.int x :: .int j :: .ref a :: rest)) rfl rfl (hb hby hd)
  have NN : ∀ y ∈ locs ++ [⟨a, j.toNatClampNeg⟩], y.base ∈ ws ∨ h0.size ≤ y.base := fun y hy => by
    rcases List.mem_append.mp hy with q | q
    · exact N y q
    · cases List.mem_singleton.mp q; exact hge
  exact OwnDone.go st (K T' h' ⟨_, X', e', e0, NN, E0, G0⟩ (Keep.of_wr W') (hvs ▸ F.set W'))
theorem own_aastore {v : Value} (C : OwnCx p Z s m meth c own nm bytes maxL rt) (P : OwnPos p l e R s m args below meth c Z ws h0 T h cells slots)
    (F : OwnAry Z h a k ty vs) (hty : ty.isReference = true) (h1 : ¬ j < 0) (h2 : j.toNatClampNeg < vs.length) (S : Sto Z h a v) (hge : a ∈ ws ∨ h0.size ≤ a) (hd : decode bytes pc = .ok (.aastore, 1)) (hvs : vs.set j.toNatClampNeg v = vs')
    (K : ∀ T' h', OwnPos p l e R s m args below meth c Z ws h0 T' h' cells slots → Keep h h' [a] → OwnAry Z h' a k ty vs' → OwnDone p e below W (T'.setTop (mkF m (pc + 1) Ls rest))) : OwnDone p e below W (T.setTop (mkF m pc Ls (v :: .int j :: .ref a :: rest))) := by
  obtain ⟨hx, hZ, hown, hnm, hby, hml, hret, hlk⟩ := C
  obtain ⟨locs, X, eT, e0, N, E0, G0⟩ := P
  obtain ⟨c0, A0, r1, r2⟩ := id F
  obtain ⟨T', h', X', e', W', st⟩ := stR X hx hZ eT A0 (own_in r2 h1 h2) hty S (g := mkF m pc Ls (v :: .int j :: .ref a :: rest)) rfl rfl (hb hby hd)
  have NN : ∀ y ∈ locs ++ [⟨a, j.toNatClampNeg⟩], y.base ∈ ws ∨ h0.size ≤ y.base := fun y hy => by
    rcases List.mem_append.mp hy with q | q
    · exact N y q
    · cases List.mem_singleton.mp q; exact hge
  exact OwnDone.go st (K T' h' ⟨_, X', e', e0, NN, E0, G0⟩ (Keep.of_wr W') (hvs ▸ F.set W'))
theorem own_iaload {v : Value} {target : State} (C : OwnCx p Z s m meth c own nm bytes maxL rt) (P : OwnPos p l e R s m args below meth c Z ws h0 T h cells slots)
    (F : OwnAry Z h a k .int vs) (h1 : ¬ j < 0) (hv : vs[j.toNatClampNeg]? = some v) (hd : decode bytes pc = .ok (.iaload, 1))
    (K : Steps p.tables e below (T.setTop (mkF m (pc + 1) Ls (v :: rest))) target) : Steps p.tables e below (T.setTop (mkF m pc Ls (.int j :: .ref a :: rest))) target := by
  obtain ⟨hx, hZ, hown, hnm, hby, hml, hret, hlk⟩ := C
  obtain ⟨locs, X, eT, e0, N, E0, G0⟩ := P
  obtain ⟨c0, A0, r1, r2⟩ := F
  exact X.iaload hx (j := j) (v := v) (by rw [eT]; exact A0.1) (State.isArrayOf_alike hZ.alike A0.2.1) A0.2.2 (own_in r2 h1 (List.getElem?_eq_some_iff.mp hv).1) ((own_at r2).trans hv) (g := mkF m pc Ls (.int j :: .ref a :: rest)) rfl rfl (hb hby hd) target K
theorem own_laload {v : Value} {target : State} (C : OwnCx p Z s m meth c own nm bytes maxL rt) (P : OwnPos p l e R s m args below meth c Z ws h0 T h cells slots)
    (F : OwnAry Z h a k .long vs) (h1 : ¬ j < 0) (hv : vs[j.toNatClampNeg]? = some v) (hd : decode bytes pc = .ok (.laload, 1))
    (K : Steps p.tables e below (T.setTop (mkF m (pc + 1) Ls (v :: rest))) target) : Steps p.tables e below (T.setTop (mkF m pc Ls (.int j :: .ref a :: rest))) target := by
  obtain ⟨hx, hZ, hown, hnm, hby, hml, hret, hlk⟩ := C
  obtain ⟨locs, X, eT, e0, N, E0, G0⟩ := P
  obtain ⟨c0, A0, r1, r2⟩ := F
  exact X.laload hx (j := j) (v := v) (by rw [eT]; exact A0.1) (State.isArrayOf_alike hZ.alike A0.2.1) A0.2.2 (own_in r2 h1 (List.getElem?_eq_some_iff.mp hv).1) ((own_at r2).trans hv) (g := mkF m pc Ls (.int j :: .ref a :: rest)) rfl rfl (hb hby hd) target K
theorem own_caload {v : Value} {target : State} (C : OwnCx p Z s m meth c own nm bytes maxL rt) (P : OwnPos p l e R s m args below meth c Z ws h0 T h cells slots)
    (F : OwnAry Z h a k .char vs) (h1 : ¬ j < 0) (hv : vs[j.toNatClampNeg]? = some v) (hd : decode bytes pc = .ok (.caload, 1))
    (K : Steps p.tables e below (T.setTop (mkF m (pc + 1) Ls (v :: rest))) target) : Steps p.tables e below (T.setTop (mkF m pc Ls (.int j :: .ref a :: rest))) target := by
  obtain ⟨hx, hZ, hown, hnm, hby, hml, hret, hlk⟩ := C
  obtain ⟨locs, X, eT, e0, N, E0, G0⟩ := P
  obtain ⟨c0, A0, r1, r2⟩ := F
  exact X.caload hx (j := j) (v := v) (by rw [eT]; exact A0.1) (State.isArrayOf_alike hZ.alike A0.2.1) A0.2.2 (own_in r2 h1 (List.getElem?_eq_some_iff.mp hv).1) ((own_at r2).trans hv) (g := mkF m pc Ls (.int j :: .ref a :: rest)) rfl rfl (hb hby hd) target K
theorem own_baload {v : Value} {target : State} (C : OwnCx p Z s m meth c own nm bytes maxL rt) (P : OwnPos p l e R s m args below meth c Z ws h0 T h cells slots)
    (F : OwnAry Z h a k .byte vs) (h1 : ¬ j < 0) (hv : vs[j.toNatClampNeg]? = some v) (hd : decode bytes pc = .ok (.baload, 1))
    (K : Steps p.tables e below (T.setTop (mkF m (pc + 1) Ls (v :: rest))) target) : Steps p.tables e below (T.setTop (mkF m pc Ls (.int j :: .ref a :: rest))) target := by
  obtain ⟨hx, hZ, hown, hnm, hby, hml, hret, hlk⟩ := C
  obtain ⟨locs, X, eT, e0, N, E0, G0⟩ := P
  obtain ⟨c0, A0, r1, r2⟩ := F
  exact X.baloadBytes hx (j := j) (v := v) (by rw [eT]; exact A0.1) (State.isArrayOf_alike hZ.alike A0.2.1) A0.2.2 (own_in r2 h1 (List.getElem?_eq_some_iff.mp hv).1) ((own_at r2).trans hv) (g := mkF m pc Ls (.int j :: .ref a :: rest)) rfl rfl (hb hby hd) target K
theorem own_aaload {v : Value} {target : State} (C : OwnCx p Z s m meth c own nm bytes maxL rt) (P : OwnPos p l e R s m args below meth c Z ws h0 T h cells slots)
    (F : OwnAry Z h a k ty vs) (hty : ty.isReference = true) (h1 : ¬ j < 0) (hv : vs[j.toNatClampNeg]? = some v) (hd : decode bytes pc = .ok (.aaload, 1))
    (K : Steps p.tables e below (T.setTop (mkF m (pc + 1) Ls (v :: rest))) target) : Steps p.tables e below (T.setTop (mkF m pc Ls (.int j :: .ref a :: rest))) target := by
  obtain ⟨hx, hZ, hown, hnm, hby, hml, hret, hlk⟩ := C
  obtain ⟨locs, X, eT, e0, N, E0, G0⟩ := P
  obtain ⟨c0, A0, r1, r2⟩ := F
  exact X.aaload hx (j := j) (v := v) (by rw [eT]; exact A0.1) (State.isArrayOf_alike hZ.alike A0.2.1) hty A0.2.2 (own_in r2 h1 (List.getElem?_eq_some_iff.mp hv).1) ((own_at r2).trans hv) (g := mkF m pc Ls (.int j :: .ref a :: rest)) rfl rfl (hb hby hd) target K
theorem own_alen {target : State} (C : OwnCx p Z s m meth c own nm bytes maxL rt) (P : OwnPos p l e R s m args below meth c Z ws h0 T h cells slots)
    (F : OwnAry Z h a k ty vs) (hd : decode bytes pc = .ok (.arraylength, 1))
    (K : Steps p.tables e below (T.setTop (mkF m (pc + 1) Ls (.int vs.length.toInt32 :: rest))) target) : Steps p.tables e below (T.setTop (mkF m pc Ls (.ref a :: rest))) target := by
  obtain ⟨hx, hZ, hown, hnm, hby, hml, hret, hlk⟩ := C
  obtain ⟨locs, X, eT, e0, N, E0, G0⟩ := P
  obtain ⟨c0, A0, r1, r2⟩ := F
  have e1 : c0.slots.size = vs.length := by rw [← r2]; simp
  exact X.arraylength hx (by rw [eT]; exact A0.1) (State.isArrayOf_alike hZ.alike A0.2.1) (g := mkF m pc Ls (.ref a :: rest)) rfl rfl (hb hby hd) target (by rw [e1]; exact K)
theorem own_alenN {n : Nat} {target : State} (C : OwnCx p Z s m meth c own nm bytes maxL rt) (P : OwnPos p l e R s m args below meth c Z ws h0 T h cells slots)
    (F : OwnAry Z h a k ty vs) (hl : vs.length = n) (hd : decode bytes pc = .ok (.arraylength, 1))
    (K : Steps p.tables e below (T.setTop (mkF m (pc + 1) Ls (.int n.toInt32 :: rest))) target) : Steps p.tables e below (T.setTop (mkF m pc Ls (.ref a :: rest))) target :=
  own_alen C P F hd (by rw [hl]; exact K)
end Ary
end Own
section Own2
variable {p : Program} {l : Launch} {e : Env} {R : Room} {s : State} {m : MethodId} {args : Array Value} {below : List Frame} {meth : Method} {c : Code} {T : State} {cells slots : Nat} {Z : State} {a0 : Array Value} {h h' h0 : Heap} {ws ws' : List Addr}
  {own nm : String} {bytes : ByteArray} {maxL : Nat} {rt : Option FieldType} {W : State → Outcome → Prop} {pc : Nat} {Ls : Array Slot} {rest : List Value}
theorem own_callF {y z : MethodName} {count : Nat} {yb : ByteArray} {ym : Nat} {yr : Option FieldType} {rm : Room} {Q : Option Value → Heap → Prop} {index wd : Nat} {st : List Value} {as : List Value} {b : Addr} {CC : String}
    (C : OwnCx p Z s m meth c own nm bytes maxL rt) (P : OwnPos p l e R s m args below meth c Z ws h0 T h cells slots) (E : Exa Z h b CC)
    (w1 : (Cond.methodLink own index y).before a0 Z = true) (w2 : (Cond.declares y).before a0 Z = true) (w7 : (Cond.interfaceMethod y.cls y.cls y.name y.desc).before a0 Z = true) (k7 : ((Cond.interfaceMethod y.cls y.cls y.name y.desc).onTables && (Cond.interfaceMethod y.cls y.cls y.name y.desc).keepsFace) = true) (w5 : (Cond.selects CC y z).before a0 Z = true) (w6 : (Cond.instanceMethod z).before a0 Z = true)
    (w8 : (Cond.publicMethod z).before a0 Z = true) (w9 : (Cond.unhidden CC y.name y.desc).before a0 Z = true) (w10 : (Cond.castable CC y.cls).before a0 Z = true) (w3 : (Cond.initialized z.cls).before a0 Z = true) (w4 : (Cond.code z yb ym yr).before a0 Z = true)
    (hy : y.cls ≠ "java/lang/invoke/MethodHandle" ∧ y.cls ≠ "java/lang/invoke/VarHandle") (M : OwnMeets l z yb ym yr rm Z ws' (.ref b :: as).toArray h Q) {ps : List FieldType} {pr : Option FieldType} (hpd : parseMethodDescriptor y.desc = some ⟨ps, pr⟩) (hlen : as.length = ps.length)
    (hst : st = as.reverse ++ .ref b :: rest) (hwd : (rest.map fun v => v.category).sum = wd) (hsz : Ls.size = maxL) (hd : decode bytes pc = .ok (.invokeinterface index count, 5))
    (hsub : ∀ a ∈ ws', a ∈ ws ∨ h0.size ≤ a) (hf : rm.frames + 1 ≤ R.frames) (hl : wd + (ym + 11) + rm.locals ≤ R.locals) (hc : cells + rm.cells ≤ R.cells) (hs : slots + rm.slots ≤ R.slots)
    (K : ∀ T' h' v, OwnPos p l e R s m args below meth c Z ws h0 T' h' (cells + rm.cells) (slots + rm.slots) → Keep h h' ws' → Q v h' → OwnDone p e below W (T'.setTop (mkF m (pc + 5) Ls (v.toList ++ rest)))) : OwnDone p e below W (T.setTop (mkF m pc Ls st)) := by
  have kp := P.keep
  obtain ⟨hx, hZ, hown, hnm, hby, hml, hret, hlk⟩ := C
  obtain ⟨locs, X, eT, e0, N, E0, G0⟩ := P
  obtain ⟨cq, kq, qa, qb, qc⟩ := isOf hZ eT E
  obtain ⟨v, _, ⟨T', L', k', n'⟩, -, X', ⟨Lc, ⟨hQ, hK, NQ⟩, l1, l2, l3⟩, stp⟩ := X.interfaceBack hx (xi := y) (y := z) hown (mvT hZ w1) (mvT hZ w2) (mvT hZ w7 k7) (mvT hZ w5) (mvT hZ w6) (mvT hZ w8) (mvT hZ w9) (mvT hZ w10) hy (backOf (W := wd) (Q := fun v h2 L => Q v h2 ∧ Keep h h2 ws' ∧ ∀ y ∈ L, y.base ∈ ws' ∨ h.size ≤ y.base) (M []) hZ w4 w3 hf hl) qa qb qc (g := mkF m pc Ls st) rfl (by rw [hml]; exact hsz) (Steps.refl _) (argsL := as) (rest := rest) (lenOf hpd hlen) hst (by show 2 * 0 + _ ≤ _; omega) (hb hby hd) (fun _ _ => ⟨rfl, eT, hc, hs⟩)
  dsimp only [Pt.U, Pt.locs, Pt.cells, Pt.slots] at X' l1 l2 l3 stp hQ hK
  subst l1 l2 l3
  have NN : ∀ y ∈ locs ++ Lc, y.base ∈ ws ∨ h0.size ≤ y.base := fun y hy => by
    rcases List.mem_append.mp hy with q | q
    · exact N y q
    · rcases NQ y q with q | q
      · exact hsub _ q
      · exact Or.inr (Nat.le_trans kp.1 q)
  exact OwnDone.go (fun _ k => stp.trans k) (K T' _ v ⟨_, X', rfl, e0, NN, E0, G0⟩ hK hQ)

theorem own_callIN {y : MethodName} {host : String} {yb : ByteArray} {ym : Nat} {rm : Room} {Q : Option Value → Heap → Prop} {index wd : Nat} {st : List Value} {as : List Value} {b : Addr}
    (C : OwnCx p Z s m meth c own nm bytes maxL rt) (P : OwnPos p l e R s m args below meth c Z ws h0 T h cells slots) (hin : y.name = "<init>")
    (w1 : (Cond.methodLinkNest own index y host).before a0 Z = true) (w2 : (Cond.instanceMethod y).before a0 Z = true) (w3 : (Cond.initialized y.cls).before a0 Z = true) (w4 : (Cond.code y yb ym none).before a0 Z = true)
    (hy : y.cls ≠ "java/lang/invoke/MethodHandle" ∧ y.cls ≠ "java/lang/invoke/VarHandle") (M : OwnMeets l y yb ym none rm Z ws' (.ref b :: as).toArray h Q) {ps : List FieldType} {pr : Option FieldType} (hpd : parseMethodDescriptor y.desc = some ⟨ps, pr⟩) (hlen : as.length = ps.length)
    (hst : st = as.reverse ++ .ref b :: rest) (hwd : (rest.map fun v => v.category).sum = wd) (hsz : Ls.size = maxL) (hd : decode bytes pc = .ok (.invokespecial index, 3))
    (hsub : ∀ a ∈ ws', a ∈ ws ∨ h0.size ≤ a) (hf : rm.frames + 1 ≤ R.frames) (hl : wd + (ym + 11) + rm.locals ≤ R.locals) (hc : cells + rm.cells ≤ R.cells) (hs : slots + rm.slots ≤ R.slots)
    (K : ∀ T' h' v, OwnPos p l e R s m args below meth c Z ws h0 T' h' (cells + rm.cells) (slots + rm.slots) → Keep h h' ws' → Q v h' → OwnDone p e below W (T'.setTop (mkF m (pc + 3) Ls (v.toList ++ rest)))) : OwnDone p e below W (T.setTop (mkF m pc Ls st)) := by
  have kp := P.keep
  obtain ⟨hx, hZ, hown, hnm, hby, hml, hret, hlk⟩ := C
  obtain ⟨locs, X, eT, e0, N, E0, G0⟩ := P
  obtain ⟨v, _, ⟨T', L', k', n'⟩, -, X', ⟨Lc, ⟨hQ, hK, NQ⟩, l1, l2, l3⟩, stp⟩ := X.specialBackNest hx (y := y) hin hown (Cond.methodLinkNest_wide hZ w1 :) (mvT hZ w2) (mvT hZ w4) hy (backOf (W := wd) (Q := fun v h2 L => Q v h2 ∧ Keep h h2 ws' ∧ ∀ y ∈ L, y.base ∈ ws' ∨ h.size ≤ y.base) (M []) hZ w4 w3 hf hl) (g := mkF m pc Ls st) rfl (by rw [hml]; exact hsz) (Steps.refl _) (a := b) (argsL := as) (rest := rest) (lenOf hpd hlen) hst (by show 2 * 0 + _ ≤ _; omega) (hb hby hd) (fun _ _ => ⟨rfl, eT, hc, hs⟩)
  dsimp only [Pt.U, Pt.locs, Pt.cells, Pt.slots] at X' l1 l2 l3 stp hQ hK
  subst l1 l2 l3
  have NN : ∀ y ∈ locs ++ Lc, y.base ∈ ws ∨ h0.size ≤ y.base := fun y hy => by
    rcases List.mem_append.mp hy with q | q
    · exact N y q
    · rcases NQ y q with q | q
      · exact hsub _ q
      · exact Or.inr (Nat.le_trans kp.1 q)
  exact OwnDone.go (fun _ k => stp.trans k) (K T' _ v ⟨_, X', rfl, e0, NN, E0, G0⟩ hK hQ)

theorem own_refReady {y : MethodName} {index cur : Nat} {U : State} (hcur : U.vm.findClass own = some cur) (h : (Cond.methodRef own index y).before args U = true) :
    ∃ mf c', U.methodFound? y.cls y.name y.desc = some mf ∧ U.vm.methodReady cur index mf ∧ U.vm.findClass y.cls = some c' ∧ namesResolved U.vm cur index c' := by
  obtain ⟨mf, c', ci, b, h1, h2, h3, h4, h5⟩ := Cond.methodRef_spec (e := launch0.env 0 0 0) hcur (show (Cond.methodRef own index y).holds args U none U [] = true from h)
  simp only [Cond.before, Cond.holds, Cond.value, hcur] at h
  cases hm : U.methodFound? y.cls y.name y.desc with
  | none => simp [hm] at h
  | some m' =>
    simp only [hm, beq_iff_eq, Option.some.injEq, Bool.and_eq_true, decide_eq_true_eq] at h
    obtain ⟨⟨hnames, hcls⟩, hres⟩ := h
    obtain ⟨cp, hcp, hn⟩ := State.names_spec hnames
    obtain ⟨ci', nt, hentry, hnt, -⟩ := namesOf?_method hn
    obtain ⟨k, cf, hk, hcf, rfl⟩ := State.poolOf?_spec hcur hcp
    obtain ⟨b', hask⟩ := memberRef_ask' (e := launch0.env 0 0 0) hk hcf hentry hnt
    rw [hask] at h4
    have hci : ci' = ci := by
      injection h4 with h4
      exact (Prod.mk.inj h4).1
    exact ⟨mf, c', by rw [← hm]; exact h1, h2, h3, k, cf, ci, nt, hk, hcf, hci ▸ hentry, h5⟩
theorem own_callIR {y : MethodName} {yb : ByteArray} {ym : Nat} {rm : Room} {Q : Option Value → Heap → Prop} {index wd : Nat} {st : List Value} {as : List Value} {b : Addr}
    (C : OwnCx p Z s m meth c own nm bytes maxL rt) (P : OwnPos p l e R s m args below meth c Z ws h0 T h cells slots) (hin : y.name = "<init>")
    (w1 : (Cond.methodRef own index y).before a0 Z = true) (w2 : (Cond.instanceMethod y).before a0 Z = true) (w3 : (Cond.initialized y.cls).before a0 Z = true) (w4 : (Cond.code y yb ym none).before a0 Z = true)
    (hy : y.cls ≠ "java/lang/invoke/MethodHandle" ∧ y.cls ≠ "java/lang/invoke/VarHandle") (M : OwnMeets l y yb ym none rm Z ws' (.ref b :: as).toArray h Q) {ps : List FieldType} {pr : Option FieldType} (hpd : parseMethodDescriptor y.desc = some ⟨ps, pr⟩) (hlen : as.length = ps.length)
    (hst : st = as.reverse ++ .ref b :: rest) (hwd : (rest.map fun v => v.category).sum = wd) (hsz : Ls.size = maxL) (hd : decode bytes pc = .ok (.invokespecial index, 3))
    (hsub : ∀ a ∈ ws', a ∈ ws ∨ h0.size ≤ a) (hf : rm.frames + 1 ≤ R.frames) (hl : wd + (ym + 11) + rm.locals ≤ R.locals) (hc : cells + rm.cells ≤ R.cells) (hs : slots + rm.slots ≤ R.slots)
    (K : ∀ T' h' v, OwnPos p l e R s m args below meth c Z ws h0 T' h' (cells + rm.cells) (slots + rm.slots) → Keep h h' ws' → Q v h' → OwnDone p e below W (T'.setTop (mkF m (pc + 3) Ls (v.toList ++ rest)))) : OwnDone p e below W (T.setTop (mkF m pc Ls st)) := by
  have kp := P.keep
  obtain ⟨hx, hZ, hown, hnm, hby, hml, hret, hlk⟩ := C
  obtain ⟨locs, X, eT, e0, N, E0, G0⟩ := P
  have hWT : Z.Warmed39 T.vm := wtrans hZ X.warmed
  have w2s : (Cond.instanceMethod y).before args s = true := mvT hZ w2
  have w4s : (Cond.code y yb ym none).before args s = true := mvT hZ w4
  obtain ⟨mk, methM, hnamed, hmethM, hstM, habM⟩ := Cond.instanceMethod_spec w2s
  obtain ⟨methM', cM, hmethM', -, -, -, -, -, -, hsig⟩ := Cond.code_spec hnamed w4s
  cases hmethM.symm.trans hmethM'
  obtain ⟨mz, -, hnz, -⟩ := Cond.instanceMethod_spec w2
  have w1T := Cond.methodRef_warmed39 hWT hnz hy w1
  have hcurT : (Z.setVm T.vm).vm.findClass own = some m.cls := (X.warmed.alike.findClass _ _).trans hown
  obtain ⟨mf, c', q1, q2, q3, q4⟩ := own_refReady hcurT w1T
  have hnT : T.methodNamed? y = some mk := X.named hnamed
  have hnU : (Z.setVm T.vm).methodNamed? y = some mk := hnT
  cases (State.methodFound?_of_named hnU hy).symm.trans q1
  obtain ⟨kO, hkO, hnameO⟩ := className_of_methodNamed hnT
  have hfc : T.vm.findClass y.cls = some mk.cls := findClass_of_methodNamed hnT
  cases (show T.vm.findClass y.cls = some c' from q3).symm.trans hfc
  have hmT : T.vm.method? mk = some methM := by rw [X.warmed.alike.method?]; exact hmethM
  obtain ⟨hnameM, hdescM⟩ := name_of_methodNamed hnT hmT
  have hfound : lookupSpecial T.vm mk.cls "<init>" methM.desc = .method mk := by
    rw [hdescM, ← hin]; exact lookupSpecial_of_named hnT hmT hstM
  have step : ∀ target, (∀ acts, Steps p.tables e below (doInvoke e (T.setTop (mkF m pc Ls rest)) acts mk (.ref b :: as).toArray).1 target) → Steps p.tables e below (T.setTop (mkF m pc Ls st)) target := by
    intro target hrest
    have hd' := hb hby hd
    jvm_step X.here [hx, hd', invokespecial.wp_init (e := e) (s := T) (k := kO) (meth := methM) (m := mk) (a := b) (args := as) (rest := rest) (f := mkF m pc Ls st) X.here.top q4 q2 hkO hmT (by rw [hnameM]; exact hin) hstM habM hfound (by rw [lenOf hpd hlen _ hsig]) hst]
    exact hrest
  obtain ⟨v, ⟨T', L', k', n'⟩, X', ⟨Lc, ⟨hQ, hK, NQ⟩, l1, l2, l3⟩, stp⟩ := (backOf (W := wd) (len := 3) (p := p) (e := e) (below := below) (args := args) (Q := fun v h2 L => Q v h2 ∧ Keep h h2 ws' ∧ ∀ y ∈ L, y.base ∈ ws' ∨ h.size ≤ y.base) (M []) hZ w4 w3 hf hl) m meth c ⟨T, locs, cells, slots⟩ (mkF m pc Ls rest) (.invokespecial index) mk (.ref b :: as).toArray X rfl (by rw [hml]; exact hsz) (hb hby hd) (by show 2 * 0 + (rest.map fun v => v.category).sum ≤ wd; omega) hnT ⟨rfl, eT, hc, hs⟩
  dsimp only [Pt.U, Pt.locs, Pt.cells, Pt.slots] at X' l1 l2 l3 stp hQ hK
  subst l1 l2 l3
  have NN : ∀ y ∈ locs ++ Lc, y.base ∈ ws ∨ h0.size ≤ y.base := fun y hy => by
    rcases List.mem_append.mp hy with q | q
    · exact N y q
    · rcases NQ y q with q | q
      · exact hsub _ q
      · exact Or.inr (Nat.le_trans kp.1 q)
  exact OwnDone.go (fun _ k => step _ fun acts => (by rw [doInvoke_state]; exact Steps.refl _ : Steps p.tables e below _ (doInvoke e (T.setTop (mkF m pc Ls rest)) [] mk (.ref b :: as).toArray).1).trans (stp.trans k)) (K T' _ v ⟨_, X', rfl, e0, NN, E0, G0⟩ hK hQ)

theorem own_clone {index wd cap : Nat} {a : Addr} {k : ClassId} {ad : String} {ty : FieldType} {vs : List Value} (C : OwnCx p Z s m meth c own nm bytes maxL rt) (P : OwnPos p l e R s m args below meth c Z ws h0 T h cells slots)
    (F : OwnAry Z h a k ty vs) (hk : Z.vm.findClass ad = some k) (G : ∀ v ∈ vs, fits ty v = true)
    (w1 : (Cond.methodLink own index ⟨ad, "clone", "()Ljava/lang/Object;"⟩).before a0 Z = true) (w2 : (Cond.sameMethod ad "java/lang/Object" "clone" "()Ljava/lang/Object;").before a0 Z = true) (w3 : (Cond.native ⟨"java/lang/Object", "clone", "()Ljava/lang/Object;"⟩).before a0 Z = true)
    (w4 : (Cond.instanceMethod ⟨"java/lang/Object", "clone", "()Ljava/lang/Object;"⟩).before a0 Z = true) (w5 : (Cond.selects ad ⟨ad, "clone", "()Ljava/lang/Object;"⟩ ⟨"java/lang/Object", "clone", "()Ljava/lang/Object;"⟩).before a0 Z = true) (w6 : (Cond.castable ad "java/lang/Cloneable").before a0 Z = true)
    (hwd : (rest.map fun v => v.category).sum = wd) (hsz : Ls.size = maxL) (hd : decode bytes pc = .ok (.invokevirtual index, 3)) (hf : 1 ≤ R.frames) (hl : wd + 14 ≤ R.locals) (hcap : vs.length ≤ cap) (hc : cells + 1 ≤ R.cells) (hsl : slots + cap ≤ R.slots)
    (K : ∀ T' h' b, b = h.size → b < h'.size → OwnPos p l e R s m args below meth c Z ws h0 T' h' (cells + 1) (slots + cap) → Keep h h' [] → OwnAry Z h' b k ty vs → OwnDone p e below W (T'.setTop (mkF m (pc + 3) Ls (.ref b :: rest)))) : OwnDone p e below W (T.setTop (mkF m pc Ls (.ref a :: rest))) := by
  obtain ⟨hx, hZ, hown, hnm, hby, hml, hret, hlk⟩ := C
  obtain ⟨locs, X, eT, e0, N, E0, G0⟩ := P
  obtain ⟨c0, A0, r1, r2⟩ := id F
  have esz : c0.slots.size = vs.length := by rw [← r2]; simp
  have FC : FitC Z c0 := fitC_of A0 fun i hi v hv => G v (by rw [own_at r2] at hv; exact List.mem_of_getElem? hv)
  have E0' : Exa Z h a ad := by
    obtain ⟨h1, ⟨-, kk, h2, comp, h3⟩, -⟩ := id A0
    exact ⟨c0, kk, h1, by rw [r1]; exact hk, h2, A0.plain, fun q => by rw [h3] at q; cases q⟩
  obtain ⟨T', h', X', e', E', A', EX, st⟩ := cloneA X hx hZ hown w1 w2 w3 w4 w5 w6 eT A0 E0' FC (g := mkF m pc Ls (.ref a :: rest)) rfl (by rw [hml]; exact hsz) rfl (hb hby hd) hf (W := wd) (by show 2 * 0 + _ ≤ _; omega) hl (cap := cap) (by rw [esz]; exact hcap) hc hsl
  exact OwnDone.go st (K T' h' h.size rfl A'.lt ⟨_, X', e', e0, N, E0, G0⟩ ((Keep.refl h []).ext E') ⟨_, A', r1, r2⟩)
theorem OwnAry.arv {a : Addr} {k : ClassId} {ty : FieldType} {vs : List Value} {n : Int32} {d : Value} (F : OwnAry Z h a k ty vs) (hn : n.toNatClampNeg = vs.length) (hp : ¬ n < 0) (G : ∀ v ∈ vs, fits ty v = true) : Arv Z h a k ty n vs d := by
  obtain ⟨c0, A0, r1, r2⟩ := F
  have e1 : c0.slots.size = vs.length := by rw [← r2]; simp
  refine ⟨c0, A0, r1, by rw [e1, hn], hp, fun i hi => ?_, fun i hi => ?_⟩
  · rw [own_at r2, List.getD_eq_getElem?_getD, List.getElem?_eq_getElem (by omega)]; rfl
  · rw [List.getD_eq_getElem?_getD, List.getElem?_eq_getElem (by omega)]; exact G _ (List.getElem_mem _)
theorem own_ofArv {a : Addr} {k : ClassId} {ty : FieldType} {vs : List Value} {n : Int32} {d : Value} (F : Arv Z h a k ty n vs d) (hn : n.toNatClampNeg = vs.length) : OwnAry Z h a k ty vs := by
  obtain ⟨c0, A0, r1, r2, r3, H, G⟩ := F
  refine ⟨c0, A0, r1, List.ext_getElem? fun i => ?_⟩
  by_cases hi : i < c0.slots.size
  · have q := H i hi
    rw [List.getD_eq_getElem?_getD, List.getElem?_eq_getElem (by omega)] at q
    rw [List.getElem?_eq_getElem (by omega : i < vs.length)]
    simpa using q
  · rw [List.getElem?_eq_none (by simpa using hi), List.getElem?_eq_none (by omega)]
theorem own_acopy {index wd : Nat} {a b : Addr} {k k' : ClassId} {ty : FieldType} {vs vd us : List Value} {z z' nn : Int32} (C : OwnCx p Z s m meth c own nm bytes maxL rt) (P : OwnPos p l e R s m args below meth c Z ws h0 T h cells slots)
    (A : OwnAry Z h a k ty vs) (B : OwnAry Z h b k' ty vd) (hr : refKind ty = false) (hz : z.toNatClampNeg = vs.length) (hz0 : ¬ z < 0) (hz' : z'.toNatClampNeg = vd.length) (hz0' : ¬ z' < 0) (G : ∀ v ∈ vs, fits ty v = true) (G' : ∀ v ∈ vd, fits ty v = true)
    (w1 : (Cond.methodLink own index Jvm.Stand.acN).before a0 Z = true) (w2 : (Cond.native Jvm.Stand.acN).before a0 Z = true) (w3 : (Cond.static Jvm.Stand.acN).before a0 Z = true) (w4 : (Cond.initialized "java/lang/System").before a0 Z = true)
    (h3 : ¬ nn < 0) (h4 : nn.toNatClampNeg ≤ vs.length) (h5 : nn.toNatClampNeg = vd.length) (hus : us = (List.range nn.toNatClampNeg).map fun i => vs.getD (0 + i) .null) (hws : ws = []) (hge : h0.size ≤ b)
    (hwd : (rest.map fun v => v.category).sum = wd) (hsz : Ls.size = maxL) (hd : decode bytes pc = .ok (.invokestatic index, 3)) (hf : 1 ≤ R.frames) (hl : wd + (nativeFrameWords "java/lang/System" "arraycopy" 5 + 11) ≤ R.locals)
    (K : ∀ T' h', OwnPos p l e R s m args below meth c Z ws h0 T' h' cells slots → Keep h h' [b] → OwnAry Z h' b k' ty us → OwnDone p e below W (T'.setTop (mkF m (pc + 3) Ls rest))) : OwnDone p e below W (T.setTop (mkF m pc Ls (.int nn :: .int 0 :: .ref b :: .int 0 :: .ref a :: rest))) := by
  obtain ⟨hx, hZ, hown, hnm, hby, hml, hret, hlk⟩ := C
  obtain ⟨locs, X, eT, e0, N, E0, G0⟩ := P
  subst hws
  have q0 : (0 : Int32).toNatClampNeg = 0 := by decide
  have N' : Fr h0.size locs := fun y hy => (N y hy).elim (fun q => (nomatch q)) id
  obtain ⟨T', h', L', X', e', NF, K', B', st⟩ := cpA X hx hZ hown w1 w2 w3 w4 eT (sp := 0) (dp := 0) (nn := nn) (dv := .null) (dd := .null) (us := us) (A.arv hz hz0 G) (B.arv hz' hz0' G') (Or.inl ⟨rfl, hr⟩) (by decide) (by decide) h3 (by rw [q0]; omega) (by rw [q0]; omega) (by rw [q0]; exact hus) (by rw [q0]; omega) N' hge (g := mkF m pc Ls (.int nn :: .int 0 :: .ref b :: .int 0 :: .ref a :: rest)) rfl (by rw [hml]; exact hsz) rfl (hb hby hd) hf (W := wd) (by show 2 * 0 + _ ≤ _; omega) hl
  have e2 : vd.take (0 : Int32).toNatClampNeg ++ us ++ vd.drop ((0 : Int32).toNatClampNeg + nn.toNatClampNeg) = us := by
    have q0 : (0 : Int32).toNatClampNeg = 0 := by decide
    rw [q0, List.take_zero, List.nil_append, List.drop_of_length_le (by omega), List.append_nil]
  rw [e2] at B'
  exact OwnDone.go st (K T' h' ⟨_, X', e', e0, fun y hy => Or.inr (NF y hy), E0, G0⟩ K' (own_ofArv B' (by rw [hz', ← h5, hus]; simp)))
theorem own_cast {index : Nat} {a : Addr} {KK : String} (C : OwnCx p Z s m meth c own nm bytes maxL rt) (P : OwnPos p l e R s m args below meth c Z ws h0 T h cells slots)
    (w : (Cond.classLink own index KK).before a0 Z = true) (I : Ins Z h a KK true) (hd : decode bytes pc = .ok (.checkcast index, 3))
    (K : ∀ T', OwnPos p l e R s m args below meth c Z ws h0 T' h cells slots → OwnDone p e below W (T'.setTop (mkF m (pc + 3) Ls (.ref a :: rest)))) : OwnDone p e below W (T.setTop (mkF m pc Ls (.ref a :: rest))) := by
  obtain ⟨hx, hZ, hown, hnm, hby, hml, hret, hlk⟩ := C
  obtain ⟨locs, X, eT, e0, N, E0, G0⟩ := P
  obtain ⟨T', X', e', st⟩ := castY X hx hZ hown w eT I (g := mkF m pc Ls (.ref a :: rest)) rfl rfl (hb hby hd)
  exact OwnDone.go st (K T' ⟨_, X', e', e0, N, E0, G0⟩)
theorem own_lswMiss {k : Int32} {default : Int} {pairs : Array (Int × Int)} {len pc' : Nat} {target : State} (C : OwnCx p Z s m meth c own nm bytes maxL rt) (P : OwnPos p l e R s m args below meth c Z ws h0 T h cells slots)
    (hd : decode bytes pc = .ok (.lookupswitch default pairs, len)) (hs : (pairs.toList.zip (pairs.toList.drop 1)).all (fun (a, next) => a.1 < next.1) = true) (hf : pairs.find? (·.1 == k.toInt) = none) (ho : 0 ≤ (pc : Int) + default) (hp : ((pc : Int) + default).toNat = pc')
    (K : Steps p.tables e below (T.setTop (mkF m pc' Ls rest)) target) : Steps p.tables e below (T.setTop (mkF m pc Ls (.int k :: rest))) target := by
  obtain ⟨hx, hZ, hown, hnm, hby, hml, hret, hlk⟩ := C
  obtain ⟨locs, X, eT, e0, N, E0, G0⟩ := P
  subst hp
  exact X.lookupswitchMiss hx (g := mkF m pc Ls (.int k :: rest)) rfl rfl (hb hby hd) hs hf ho target K
theorem own_tswIn {k : Int32} {default low high off : Int} {offs : Array Int} {len pc' : Nat} {target : State} (C : OwnCx p Z s m meth c own nm bytes maxL rt) (P : OwnPos p l e R s m args below meth c Z ws h0 T h cells slots)
    (hd : decode bytes pc = .ok (.tableswitch default low high offs, len)) (hin : ¬ (k.toInt < low ∨ k.toInt > high)) (hoffs : offs[(k.toInt - low).toNat]? = some off) (ho : 0 ≤ (pc : Int) + off) (hp : ((pc : Int) + off).toNat = pc')
    (K : Steps p.tables e below (T.setTop (mkF m pc' Ls rest)) target) : Steps p.tables e below (T.setTop (mkF m pc Ls (.int k :: rest))) target := by
  obtain ⟨hx, hZ, hown, hnm, hby, hml, hret, hlk⟩ := C
  obtain ⟨locs, X, eT, e0, N, E0, G0⟩ := P
  subst hp
  exact X.tableswitchIn hx (g := mkF m pc Ls (.int k :: rest)) rfl rfl (hb hby hd) hin hoffs ho target K
end Own2

theorem pd_0 : parseMethodDescriptor "()V" = some ⟨[], none⟩ := by decide +kernel
def own_lay0 : List (String × String × String) := [("java/util/IdentityHashMap", "table", "[Ljava/lang/Object;"), ("java/util/IdentityHashMap", "size", "I"), ("java/util/AbstractMap", "keySet", "Ljava/util/Set;")]
set_option maxRecDepth 65536 in
theorem own_laid0 {Z : State} {a0 : Array Value} (hw : ∀ d ∈ tables_1, d.before a0 Z = true) : OwnLaid Z a0 "java/util/IdentityHashMap" own_lay0 := by
  refine ⟨?_, by decide +kernel, fun q hq => Option.isSome_iff_exists.mp (List.all_eq_true.mp (by decide +kernel : own_lay0.all (fun q => (parseFieldDescriptor q.2.2).isSome) = true) q hq)⟩
  intro q hq
  simp only [own_lay0, List.mem_cons, List.not_mem_nil, or_false] at hq
  rcases hq with rfl | rfl | rfl
  · exact Or.inl (hw _ (List.mem_of_getElem? (i := 46) rfl))
  · exact Or.inl (hw _ (List.mem_of_getElem? (i := 61) rfl))
  · exact Or.inl (hw _ (List.mem_of_getElem? (i := 94) rfl))
theorem pd_1 : parseMethodDescriptor "(I)V" = some ⟨[.int], none⟩ := by decide +kernel
def own_lay1 : List (String × String × String) := [("java/util/IdentityHashMap$KeySet", "this$0", "Ljava/util/IdentityHashMap;")]
set_option maxRecDepth 65536 in
theorem own_laid1 {Z : State} {a0 : Array Value} (hw : ∀ d ∈ tables_1, d.before a0 Z = true) : OwnLaid Z a0 "java/util/IdentityHashMap$KeySet" own_lay1 := by
  refine ⟨?_, by decide +kernel, fun q hq => Option.isSome_iff_exists.mp (List.all_eq_true.mp (by decide +kernel : own_lay1.all (fun q => (parseFieldDescriptor q.2.2).isSome) = true) q hq)⟩
  intro q hq
  simp only [own_lay1, List.mem_cons, List.not_mem_nil, or_false] at hq
  rcases hq with rfl
  · exact Or.inr (hw _ (List.mem_of_getElem? (i := 103) rfl))
theorem pd_2 : parseMethodDescriptor "(Ljava/util/IdentityHashMap;)V" = some ⟨[(.object "java/util/IdentityHashMap")], none⟩ := by decide +kernel
def own_lay2 : List (String × String × String) := [("java/util/Collections$SetFromMap", "m", "Ljava/util/Map;"), ("java/util/Collections$SetFromMap", "s", "Ljava/util/Set;")]
set_option maxRecDepth 65536 in
theorem own_laid2 {Z : State} {a0 : Array Value} (hw : ∀ d ∈ tables_1, d.before a0 Z = true) : OwnLaid Z a0 "java/util/Collections$SetFromMap" own_lay2 := by
  refine ⟨?_, by decide +kernel, fun q hq => Option.isSome_iff_exists.mp (List.all_eq_true.mp (by decide +kernel : own_lay2.all (fun q => (parseFieldDescriptor q.2.2).isSome) = true) q hq)⟩
  intro q hq
  simp only [own_lay2, List.mem_cons, List.not_mem_nil, or_false] at hq
  rcases hq with rfl | rfl
  · exact Or.inr (hw _ (List.mem_of_getElem? (i := 83) rfl))
  · exact Or.inl (hw _ (List.mem_of_getElem? (i := 108) rfl))
theorem pd_3 : parseMethodDescriptor "()Ljava/util/Set;" = some ⟨[], some (.object "java/util/Set")⟩ := by decide +kernel
theorem pd_4 : parseMethodDescriptor "()Z" = some ⟨[], some .boolean⟩ := by decide +kernel
theorem pd_5 : parseMethodDescriptor "(Ljava/util/Map;)V" = some ⟨[(.object "java/util/Map")], none⟩ := by decide +kernel
def own_lay3 : List (String × String × String) := [("com/example/bounded_array/boundedarray/regex/CodePointSet$Builder", "bounds", "[I"), ("com/example/bounded_array/boundedarray/regex/CodePointSet$Builder", "added", "Ljava/util/Set;"), ("com/example/bounded_array/boundedarray/regex/CodePointSet$Builder", "count", "I")]
set_option maxRecDepth 65536 in
theorem own_laid3 {Z : State} {a0 : Array Value} (hw : ∀ d ∈ tables_1, d.before a0 Z = true) : OwnLaid Z a0 "com/example/bounded_array/boundedarray/regex/CodePointSet$Builder" own_lay3 := by
  refine ⟨?_, by decide +kernel, fun q hq => Option.isSome_iff_exists.mp (List.all_eq_true.mp (by decide +kernel : own_lay3.all (fun q => (parseFieldDescriptor q.2.2).isSome) = true) q hq)⟩
  intro q hq
  simp only [own_lay3, List.mem_cons, List.not_mem_nil, or_false] at hq
  rcases hq with rfl | rfl | rfl
  · exact Or.inl (hw _ (List.mem_of_getElem? (i := 24) rfl))
  · exact Or.inr (hw _ (List.mem_of_getElem? (i := 110) rfl))
  · exact Or.inl (hw _ (List.mem_of_getElem? (i := 121) rfl))
theorem pd_6 : parseMethodDescriptor "(Ljava/util/Map;)Ljava/util/Set;" = some ⟨[(.object "java/util/Map")], some (.object "java/util/Set")⟩ := by decide +kernel
theorem pd_7 : parseMethodDescriptor "([JII)V" = some ⟨[(.array .long), .int, .int], none⟩ := by decide +kernel
theorem pd_8 : parseMethodDescriptor "(Ljava/util/DualPivotQuicksort$Sorter;[JIII)V" = some ⟨[(.object "java/util/DualPivotQuicksort$Sorter"), (.array .long), .int, .int, .int], none⟩ := by decide +kernel
theorem pd_9 : parseMethodDescriptor "([JIII)V" = some ⟨[(.array .long), .int, .int, .int], none⟩ := by decide +kernel
theorem pd_10 : parseMethodDescriptor "(II)I" = some ⟨[.int, .int], some .int⟩ := by decide +kernel
theorem pd_11 : parseMethodDescriptor "(I[III)I" = some ⟨[.int, (.array .int), .int, .int], some .int⟩ := by decide +kernel
theorem pd_12 : parseMethodDescriptor "(Ljava/lang/Object;IIII)I" = some ⟨[(.object "java/lang/Object"), .int, .int, .int, .int], some .int⟩ := by decide +kernel
def own_lay4 : List (String × String × String) := [("com/example/bounded_array/boundedarray/regex/CodePointSet", "bounds", "[I"), ("com/example/bounded_array/boundedarray/regex/CodePointSet", "hash", "I"), ("com/example/bounded_array/boundedarray/regex/CodePointSet", "lowAscii", "J"), ("com/example/bounded_array/boundedarray/regex/CodePointSet", "highAscii", "J")]
set_option maxRecDepth 65536 in
theorem own_laid4 {Z : State} {a0 : Array Value} (hw : ∀ d ∈ tables_1, d.before a0 Z = true) : OwnLaid Z a0 "com/example/bounded_array/boundedarray/regex/CodePointSet" own_lay4 := by
  refine ⟨?_, by decide +kernel, fun q hq => Option.isSome_iff_exists.mp (List.all_eq_true.mp (by decide +kernel : own_lay4.all (fun q => (parseFieldDescriptor q.2.2).isSome) = true) q hq)⟩
  intro q hq
  simp only [own_lay4, List.mem_cons, List.not_mem_nil, or_false] at hq
  rcases hq with rfl | rfl | rfl | rfl
  · exact Or.inr (hw _ (List.mem_of_getElem? (i := 159) rfl))
  · exact Or.inr (hw _ (List.mem_of_getElem? (i := 173) rfl))
  · exact Or.inr (hw _ (List.mem_of_getElem? (i := 176) rfl))
  · exact Or.inr (hw _ (List.mem_of_getElem? (i := 178) rfl))
theorem pd_13 : parseMethodDescriptor "([I)I" = some ⟨[(.array .int)], some .int⟩ := by decide +kernel
theorem pd_14 : parseMethodDescriptor "([J)V" = some ⟨[(.array .long)], none⟩ := by decide +kernel
theorem pd_15 : parseMethodDescriptor "([II)[I" = some ⟨[(.array .int), .int], some (.array .int)⟩ := by decide +kernel
theorem pd_16 : parseMethodDescriptor "([I)V" = some ⟨[(.array .int)], none⟩ := by decide +kernel
theorem pd_17 : parseMethodDescriptor "(IZ)I" = some ⟨[.int, .boolean], some .int⟩ := by decide +kernel
theorem pd_18 : parseMethodDescriptor "(II)V" = some ⟨[.int, .int], none⟩ := by decide +kernel
theorem pd_19 : parseMethodDescriptor "()Lcom/example/bounded_array/boundedarray/regex/CodePointSet;" = some ⟨[], some (.object "com/example/bounded_array/boundedarray/regex/CodePointSet")⟩ := by decide +kernel
theorem pd_20 : parseMethodDescriptor "()I" = some ⟨[], some .int⟩ := by decide +kernel
theorem pd_21 : parseMethodDescriptor "(I)I" = some ⟨[.int], some .int⟩ := by decide +kernel
theorem dam_0 : decode jdk_71_method_1_code 0 = .ok (.aload_n 0, 1) := by decide +kernel
theorem dam_1 : decode jdk_71_method_1_code 1 = .ok (.invokespecial 1, 3) := by decide +kernel
theorem dam_4 : decode jdk_71_method_1_code 4 = .ok (.return_, 1) := by decide +kernel
theorem pnam : plainName "java/util/AbstractMap" = true := by first | (simp [plainName, overriddenIn]; done) | decide +kernel
theorem efam (m : MethodId) (ao : Addr)  : entryFrame m #[(.ref ao)] 1 = mkF m 0 #[.val (.ref ao)] [] := by first | (simp [entryFrame, mkF, argsToLocals, Value.category]; done) | rfl
set_option maxRecDepth 65536 in
set_option maxHeartbeats 40000000 in
theorem rmam (l : Launch) (Z : State) (a0 : Array Value) (hw : ∀ d ∈ tables_1, d.before a0 Z = true) (ao : Addr)  (h0 : Heap) (hE : Ext Z.heap h0)   :
    OwnMeets l (⟨"java/util/AbstractMap", "<init>", "()V"⟩ : MethodName) jdk_71_method_1_code 1 none ({ frames := 1, cells := 0, slots := 0, locals := 12 } : Room) Z [] #[(.ref ao)] h0 (fun v h => v = none ∧ h0 = h) := by
  refine OwnMeets.of (plainFor_of_name pnam) hE all0 ?_
  intro p e s m below meth c T C P
  have hx := C.1
  have hby := C.2.2.2.2.1
  rw [show entryFrame m #[(.ref ao)] 1 = _ from efam m ao]
  show OwnDone p e below _ (T.setTop (mkF m 0 #[.val (.ref ao)] []))
  refine OwnDone.go (A := (T.setTop (mkF m 1 #[.val (.ref ao)] [(.ref ao)]))) (fun tQ kQ => ?_) ?_
  · refine XS.aloadN P.here hx rfl (hb hby dam_0) rfl rfl ?_
    show Steps p.tables e below (T.setTop (mkF m 1 #[.val (.ref ao)] [(.ref ao)])) _
    exact kQ
  show OwnDone p e below _ (T.setTop (mkF m 1 #[.val (.ref ao)] [(.ref ao)]))
  refine own_initO (wd := 0) (rest := []) C P (hw _ (List.mem_of_getElem? (i := 37) rfl)) (hw _ (List.mem_of_getElem? (i := 20) rfl)) (hw _ (List.mem_of_getElem? (i := 21) rfl)) rfl rfl dam_1 (by decide) (by decide) (fun T1 P1 => ?_)
  show OwnDone p e below _ (T1.setTop (mkF m 4 #[.val (.ref ao)] []))
  refine own_retV C P1 dam_4 (by decide) (by decide) ⟨rfl, rfl⟩
theorem dac_0 : decode jdk_22_method_1_code 0 = .ok (.aload_n 0, 1) := by decide +kernel
theorem dac_1 : decode jdk_22_method_1_code 1 = .ok (.invokespecial 1, 3) := by decide +kernel
theorem dac_4 : decode jdk_22_method_1_code 4 = .ok (.return_, 1) := by decide +kernel
theorem pnac : plainName "java/util/AbstractCollection" = true := by first | (simp [plainName, overriddenIn]; done) | decide +kernel
theorem efac (m : MethodId) (ao : Addr)  : entryFrame m #[(.ref ao)] 1 = mkF m 0 #[.val (.ref ao)] [] := by first | (simp [entryFrame, mkF, argsToLocals, Value.category]; done) | rfl
set_option maxRecDepth 65536 in
set_option maxHeartbeats 40000000 in
theorem rmac (l : Launch) (Z : State) (a0 : Array Value) (hw : ∀ d ∈ tables_1, d.before a0 Z = true) (ao : Addr)  (h0 : Heap) (hE : Ext Z.heap h0)   :
    OwnMeets l (⟨"java/util/AbstractCollection", "<init>", "()V"⟩ : MethodName) jdk_22_method_1_code 1 none ({ frames := 1, cells := 0, slots := 0, locals := 12 } : Room) Z [] #[(.ref ao)] h0 (fun v h => v = none ∧ h0 = h) := by
  refine OwnMeets.of (plainFor_of_name pnac) hE all0 ?_
  intro p e s m below meth c T C P
  have hx := C.1
  have hby := C.2.2.2.2.1
  rw [show entryFrame m #[(.ref ao)] 1 = _ from efac m ao]
  show OwnDone p e below _ (T.setTop (mkF m 0 #[.val (.ref ao)] []))
  refine OwnDone.go (A := (T.setTop (mkF m 1 #[.val (.ref ao)] [(.ref ao)]))) (fun tQ kQ => ?_) ?_
  · refine XS.aloadN P.here hx rfl (hb hby dac_0) rfl rfl ?_
    show Steps p.tables e below (T.setTop (mkF m 1 #[.val (.ref ao)] [(.ref ao)])) _
    exact kQ
  show OwnDone p e below _ (T.setTop (mkF m 1 #[.val (.ref ao)] [(.ref ao)]))
  refine own_initO (wd := 0) (rest := []) C P (hw _ (List.mem_of_getElem? (i := 81) rfl)) (hw _ (List.mem_of_getElem? (i := 20) rfl)) (hw _ (List.mem_of_getElem? (i := 21) rfl)) rfl rfl dac_1 (by decide) (by decide) (fun T1 P1 => ?_)
  show OwnDone p e below _ (T1.setTop (mkF m 4 #[.val (.ref ao)] []))
  refine own_retV C P1 dac_4 (by decide) (by decide) ⟨rfl, rfl⟩
theorem das_0 : decode jdk_91_method_1_code 0 = .ok (.aload_n 0, 1) := by decide +kernel
theorem das_1 : decode jdk_91_method_1_code 1 = .ok (.invokespecial 1, 3) := by decide +kernel
theorem das_4 : decode jdk_91_method_1_code 4 = .ok (.return_, 1) := by decide +kernel
theorem pnas : plainName "java/util/AbstractSet" = true := by first | (simp [plainName, overriddenIn]; done) | decide +kernel
theorem efas (m : MethodId) (ao : Addr)  : entryFrame m #[(.ref ao)] 1 = mkF m 0 #[.val (.ref ao)] [] := by first | (simp [entryFrame, mkF, argsToLocals, Value.category]; done) | rfl
set_option maxRecDepth 65536 in
set_option maxHeartbeats 40000000 in
theorem rmas (l : Launch) (Z : State) (a0 : Array Value) (hw : ∀ d ∈ tables_1, d.before a0 Z = true) (ao : Addr)  (h0 : Heap) (hE : Ext Z.heap h0)   :
    OwnMeets l (⟨"java/util/AbstractSet", "<init>", "()V"⟩ : MethodName) jdk_91_method_1_code 1 none ({ frames := 2, cells := 0, slots := 0, locals := 24 } : Room) Z [] #[(.ref ao)] h0 (fun v h => v = none ∧ h0 = h) := by
  refine OwnMeets.of (plainFor_of_name pnas) hE all0 ?_
  intro p e s m below meth c T C P
  have hx := C.1
  have hby := C.2.2.2.2.1
  rw [show entryFrame m #[(.ref ao)] 1 = _ from efas m ao]
  show OwnDone p e below _ (T.setTop (mkF m 0 #[.val (.ref ao)] []))
  refine OwnDone.go (A := (T.setTop (mkF m 1 #[.val (.ref ao)] [(.ref ao)]))) (fun tQ kQ => ?_) ?_
  · refine XS.aloadN P.here hx rfl (hb hby das_0) rfl rfl ?_
    show Steps p.tables e below (T.setTop (mkF m 1 #[.val (.ref ao)] [(.ref ao)])) _
    exact kQ
  show OwnDone p e below _ (T.setTop (mkF m 1 #[.val (.ref ao)] [(.ref ao)]))
  refine own_callI (y := (⟨"java/util/AbstractCollection", "<init>", "()V"⟩ : MethodName)) C P rfl (hw _ (List.mem_of_getElem? (i := 75) rfl)) (hw _ (List.mem_of_getElem? (i := 76) rfl)) (hw _ (List.mem_of_getElem? (i := 79) rfl)) (hw _ (List.mem_of_getElem? (i := 80) rfl)) (by decide) (rmac l Z a0 hw ao h0 P.old) (as := []) (rest := []) pd_0 rfl rfl (wd := 0) rfl rfl das_1 all0 (by decide) (by decide) (by decide) (by decide) (fun T1 h1 v1 P1 K1 hQ1 => ?_)
  obtain ⟨rfl, rfl⟩ := hQ1
  show OwnDone p e below _ (T1.setTop (mkF m 4 #[.val (.ref ao)] []))
  refine own_retV C P1 das_4 (by decide) (by decide) ⟨rfl, rfl⟩
theorem dii_0 : decode jdk_2581_method_6_code 0 = .ok (.aload_n 0, 1) := by decide +kernel
theorem dii_1 : decode jdk_2581_method_6_code 1 = .ok (.iconst 2, 1) := by decide +kernel
theorem dii_2 : decode jdk_2581_method_6_code 2 = .ok (.iload_n 1, 1) := by decide +kernel
theorem dii_3 : decode jdk_2581_method_6_code 3 = .ok (.imul, 1) := by decide +kernel
theorem dii_4 : decode jdk_2581_method_6_code 4 = .ok (.anewarray 49, 3) := by decide +kernel
theorem dii_7 : decode jdk_2581_method_6_code 7 = .ok (.putfield 51, 3) := by decide +kernel
theorem dii_10 : decode jdk_2581_method_6_code 10 = .ok (.return_, 1) := by decide +kernel
theorem pnii : plainName "java/util/IdentityHashMap" = true := by first | (simp [plainName, overriddenIn]; done) | decide +kernel
theorem efii (m : MethodId) (ao : Addr)  : entryFrame m #[(.ref ao), (.int (32 : Int32))] 2 = mkF m 0 #[.val (.ref ao), .val (.int (32 : Int32))] [] := by first | (simp [entryFrame, mkF, argsToLocals, Value.category]; done) | rfl
set_option maxRecDepth 65536 in
set_option maxHeartbeats 40000000 in
theorem rmii (l : Launch) (Z : State) (a0 : Array Value) (hw : ∀ d ∈ tables_1, d.before a0 Z = true) (ao : Addr)  (h0 : Heap) (hE : Ext Z.heap h0) (g_ao : Z.heap.size ≤ ao) (Oa : OwnObj Z h0 ao "java/util/IdentityHashMap" own_lay0 [.null, (.int (0 : Int32)), .null]) :
    OwnMeets l (⟨"java/util/IdentityHashMap", "init", "(I)V"⟩ : MethodName) jdk_2581_method_6_code 2 none ({ frames := 0, cells := 1, slots := 64, locals := 0 } : Room) Z [ao] #[(.ref ao), (.int (32 : Int32))] h0 (fun v h => v = none ∧ ∃ t, OwnObj Z h ao "java/util/IdentityHashMap" own_lay0 [(.ref t), (.int (0 : Int32)), .null]) := by
  refine OwnMeets.of (plainFor_of_name pnii) hE (allS g_ao all0) ?_
  intro p e s m below meth c T C P
  have hx := C.1
  have hby := C.2.2.2.2.1
  rw [show entryFrame m #[(.ref ao), (.int (32 : Int32))] 2 = _ from efii m ao]
  show OwnDone p e below _ (T.setTop (mkF m 0 #[.val (.ref ao), .val (.int (32 : Int32))] []))
  refine OwnDone.go (A := (T.setTop (mkF m 4 #[.val (.ref ao), .val (.int (32 : Int32))] [(.int (64 : Int32)), (.ref ao)]))) (fun tQ kQ => ?_) ?_
  · refine XS.aloadN P.here hx rfl (hb hby dii_0) rfl rfl ?_
    show Steps p.tables e below (T.setTop (mkF m 1 #[.val (.ref ao), .val (.int (32 : Int32))] [(.ref ao)])) _
    refine XS.iconst P.here hx rfl (hb hby dii_1) ?_
    show Steps p.tables e below (T.setTop (mkF m 2 #[.val (.ref ao), .val (.int (32 : Int32))] [(.int (2 : Int32)), (.ref ao)])) _
    refine XS.iloadN P.here hx rfl (hb hby dii_2) rfl ?_
    show Steps p.tables e below (T.setTop (mkF m 3 #[.val (.ref ao), .val (.int (32 : Int32))] [(.int (32 : Int32)), (.int (2 : Int32)), (.ref ao)])) _
    refine XS.imul P.here hx rfl (hb hby dii_3) rfl ?_
    show Steps p.tables e below (T.setTop (mkF m 4 #[.val (.ref ao), .val (.int (32 : Int32))] [(.int (64 : Int32)), (.ref ao)])) _
    exact kQ
  show OwnDone p e below _ (T.setTop (mkF m 4 #[.val (.ref ao), .val (.int (32 : Int32))] [(.int (64 : Int32)), (.ref ao)]))
  refine own_newR (CC := "java/lang/Object") (n := (64 : Int32)) (cap := 64) (vs := [.null, .null, .null, .null, .null, .null, .null, .null, .null, .null, .null, .null, .null, .null, .null, .null, .null, .null, .null, .null, .null, .null, .null, .null, .null, .null, .null, .null, .null, .null, .null, .null, .null, .null, .null, .null, .null, .null, .null, .null, .null, .null, .null, .null, .null, .null, .null, .null, .null, .null, .null, .null, .null, .null, .null, .null, .null, .null, .null, .null, .null, .null, .null, .null]) C P (hw _ (List.mem_of_getElem? (i := 43) rfl)) (hw _ (List.mem_of_getElem? (i := 44) rfl)) dii_4 (by decide) (by decide) (by decide) (by decide +kernel) rfl (by decide) (by decide) (fun T1 h1 a1 k1 ga1 la1 P1 K1 Y1 N1 V1 => ?_)
  have ge_a1 : h0.size ≤ a1 := by rw [ga1]; exact P.keep.1
  have ne_ao_a1 : ao ≠ a1 := by rw [ga1]; exact Nat.ne_of_lt Oa.lt
  have O2_ao := Oa.keep K1 nin0
  show OwnDone p e below _ (T1.setTop (mkF m 7 #[.val (.ref ao), .val (.int (32 : Int32))] [(.ref a1), (.ref ao)]))
  refine own_putO (ty := (.array (.object "java/lang/Object"))) C P1 (hw _ (List.mem_of_getElem? (i := 45) rfl)) Via.refl O2_ao (own_laid0 hw) 0 rfl rfl (Or.inl (hw _ (List.mem_of_getElem? (i := 46) rfl))) (hw _ (List.mem_of_getElem? (i := 26) rfl)) (by decide) rfl rfl (Or.inl (List.mem_of_getElem? (i := 0) rfl)) dii_7 (vs' := [(.ref a1), (.int (0 : Int32)), .null]) rfl (fun T3 h3 P3 K3 O3 => ?_)
  have Y4_a1 := Y1.keep K3 (ninS (Ne.symm ne_ao_a1) nin0)
  show OwnDone p e below _ (T3.setTop (mkF m 10 #[.val (.ref ao), .val (.int (32 : Int32))] []))
  refine own_retV C P3 dii_10 (by decide) (by decide) ⟨rfl, _, O3⟩
theorem dih_0 : decode jdk_2581_method_3_code 0 = .ok (.aload_n 0, 1) := by decide +kernel
theorem dih_1 : decode jdk_2581_method_3_code 1 = .ok (.invokespecial 7, 3) := by decide +kernel
theorem dih_4 : decode jdk_2581_method_3_code 4 = .ok (.aload_n 0, 1) := by decide +kernel
theorem dih_5 : decode jdk_2581_method_3_code 5 = .ok (.bipush 32, 2) := by decide +kernel
theorem dih_7 : decode jdk_2581_method_3_code 7 = .ok (.invokevirtual 13, 3) := by decide +kernel
theorem dih_10 : decode jdk_2581_method_3_code 10 = .ok (.return_, 1) := by decide +kernel
theorem pnih : plainName "java/util/IdentityHashMap" = true := by first | (simp [plainName, overriddenIn]; done) | decide +kernel
theorem efih (m : MethodId) (ao : Addr)  : entryFrame m #[(.ref ao)] 1 = mkF m 0 #[.val (.ref ao)] [] := by first | (simp [entryFrame, mkF, argsToLocals, Value.category]; done) | rfl
set_option maxRecDepth 65536 in
set_option maxHeartbeats 40000000 in
theorem rmih (l : Launch) (Z : State) (a0 : Array Value) (hw : ∀ d ∈ tables_1, d.before a0 Z = true) (ao : Addr)  (h0 : Heap) (hE : Ext Z.heap h0) (g_ao : Z.heap.size ≤ ao) (Oa : OwnObj Z h0 ao "java/util/IdentityHashMap" own_lay0 [.null, (.int (0 : Int32)), .null]) :
    OwnMeets l (⟨"java/util/IdentityHashMap", "<init>", "()V"⟩ : MethodName) jdk_2581_method_3_code 1 none ({ frames := 2, cells := 1, slots := 64, locals := 24 } : Room) Z [ao] #[(.ref ao)] h0 (fun v h => v = none ∧ ∃ t, OwnObj Z h ao "java/util/IdentityHashMap" own_lay0 [(.ref t), (.int (0 : Int32)), .null]) := by
  refine OwnMeets.of (plainFor_of_name pnih) hE (allS g_ao all0) ?_
  intro p e s m below meth c T C P
  have hx := C.1
  have hby := C.2.2.2.2.1
  rw [show entryFrame m #[(.ref ao)] 1 = _ from efih m ao]
  show OwnDone p e below _ (T.setTop (mkF m 0 #[.val (.ref ao)] []))
  refine OwnDone.go (A := (T.setTop (mkF m 1 #[.val (.ref ao)] [(.ref ao)]))) (fun tQ kQ => ?_) ?_
  · refine XS.aloadN P.here hx rfl (hb hby dih_0) rfl rfl ?_
    show Steps p.tables e below (T.setTop (mkF m 1 #[.val (.ref ao)] [(.ref ao)])) _
    exact kQ
  show OwnDone p e below _ (T.setTop (mkF m 1 #[.val (.ref ao)] [(.ref ao)]))
  refine own_callI (y := (⟨"java/util/AbstractMap", "<init>", "()V"⟩ : MethodName)) C P rfl (hw _ (List.mem_of_getElem? (i := 31) rfl)) (hw _ (List.mem_of_getElem? (i := 32) rfl)) (hw _ (List.mem_of_getElem? (i := 35) rfl)) (hw _ (List.mem_of_getElem? (i := 36) rfl)) (by decide) (rmam l Z a0 hw ao h0 P.old) (as := []) (rest := []) pd_0 rfl rfl (wd := 0) rfl rfl dih_1 all0 (by decide) (by decide) (by decide) (by decide) (fun T1 h1 v1 P1 K1 hQ1 => ?_)
  obtain ⟨rfl, rfl⟩ := hQ1
  show OwnDone p e below _ (T1.setTop (mkF m 4 #[.val (.ref ao)] []))
  refine OwnDone.go (A := (T1.setTop (mkF m 7 #[.val (.ref ao)] [(.int (32 : Int32)), (.ref ao)]))) (fun tQ kQ => ?_) ?_
  · refine XS.aloadN P1.here hx rfl (hb hby dih_4) rfl rfl ?_
    show Steps p.tables e below (T1.setTop (mkF m 5 #[.val (.ref ao)] [(.ref ao)])) _
    refine XS.bipush P1.here hx rfl (hb hby dih_5) ?_
    show Steps p.tables e below (T1.setTop (mkF m 7 #[.val (.ref ao)] [(.int (32 : Int32)), (.ref ao)])) _
    exact kQ
  show OwnDone p e below _ (T1.setTop (mkF m 7 #[.val (.ref ao)] [(.int (32 : Int32)), (.ref ao)]))
  refine own_callP (y := (⟨"java/util/IdentityHashMap", "init", "(I)V"⟩ : MethodName)) C P1 Oa.1 (hw _ (List.mem_of_getElem? (i := 38) rfl)) (hw _ (List.mem_of_getElem? (i := 39) rfl)) (hw _ (List.mem_of_getElem? (i := 26) rfl)) (hw _ (List.mem_of_getElem? (i := 40) rfl)) (hw _ (List.mem_of_getElem? (i := 27) rfl)) (hw _ (List.mem_of_getElem? (i := 42) rfl)) (by decide) (rmii l Z a0 hw ao h0 P1.old g_ao Oa) (as := [(.int (32 : Int32))]) (rest := []) pd_1 rfl rfl (wd := 0) rfl rfl dih_7 (allS (Or.inl (List.mem_of_getElem? (i := 0) rfl)) all0) (by decide) (by decide) (by decide) (by decide) (fun T2 h2 v2 P2 K2 hQ2 => ?_)
  obtain ⟨rfl, t2, O2⟩ := hQ2
  show OwnDone p e below _ (T2.setTop (mkF m 10 #[.val (.ref ao)] []))
  refine own_retV C P2 dih_10 (by decide) (by decide) ⟨rfl, _, O2⟩
theorem die_0 : decode jdk_2581_method_9_code 0 = .ok (.aload_n 0, 1) := by decide +kernel
theorem die_1 : decode jdk_2581_method_9_code 1 = .ok (.getfield 69, 3) := by decide +kernel
theorem die_4 : decode jdk_2581_method_9_code 4 = .ok (.ifCond .ne 7, 3) := by decide +kernel
theorem die_7 : decode jdk_2581_method_9_code 7 = .ok (.iconst 1, 1) := by decide +kernel
theorem die_8 : decode jdk_2581_method_9_code 8 = .ok (.goto 4, 3) := by decide +kernel
theorem die_12 : decode jdk_2581_method_9_code 12 = .ok (.ireturn, 1) := by decide +kernel
theorem pnie : plainName "java/util/IdentityHashMap" = true := by first | (simp [plainName, overriddenIn]; done) | decide +kernel
theorem efie (m : MethodId) (ao : Addr)  : entryFrame m #[(.ref ao)] 1 = mkF m 0 #[.val (.ref ao)] [] := by first | (simp [entryFrame, mkF, argsToLocals, Value.category]; done) | rfl
set_option maxRecDepth 65536 in
set_option maxHeartbeats 40000000 in
theorem rmie (l : Launch) (Z : State) (a0 : Array Value) (hw : ∀ d ∈ tables_1, d.before a0 Z = true) (ao : Addr) (t : Addr) (h0 : Heap) (hE : Ext Z.heap h0)  (Oa : OwnObj Z h0 ao "java/util/IdentityHashMap" own_lay0 [(.ref t), (.int (0 : Int32)), .null]) :
    OwnMeets l (⟨"java/util/IdentityHashMap", "isEmpty", "()Z"⟩ : MethodName) jdk_2581_method_9_code 1 (some .boolean) ({ frames := 0, cells := 0, slots := 0, locals := 0 } : Room) Z [] #[(.ref ao)] h0 (fun v h => v = some (.int 1) ∧ h0 = h) := by
  refine OwnMeets.of (plainFor_of_name pnie) hE all0 ?_
  intro p e s m below meth c T C P
  have hx := C.1
  have hby := C.2.2.2.2.1
  rw [show entryFrame m #[(.ref ao)] 1 = _ from efie m ao]
  show OwnDone p e below _ (T.setTop (mkF m 0 #[.val (.ref ao)] []))
  refine OwnDone.go (A := (T.setTop (mkF m 1 #[.val (.ref ao)] [(.ref ao)]))) (fun tQ kQ => ?_) ?_
  · refine XS.aloadN P.here hx rfl (hb hby die_0) rfl rfl ?_
    show Steps p.tables e below (T.setTop (mkF m 1 #[.val (.ref ao)] [(.ref ao)])) _
    exact kQ
  show OwnDone p e below _ (T.setTop (mkF m 1 #[.val (.ref ao)] [(.ref ao)]))
  refine own_getF C P (host := "") (Or.inl (hw _ (List.mem_of_getElem? (i := 60) rfl))) Via.refl (Oa.2 1 _ _ _ _ rfl rfl) die_1 (fun T1 P1 => ?_)
  show OwnDone p e below _ (T1.setTop (mkF m 4 #[.val (.ref ao)] [(.int (0 : Int32))]))
  refine OwnDone.go (A := (T1.setTop (mkF m 7 #[.val (.ref ao)] []))) (fun tQ kQ => XS.ifNo P1.here hx rfl (hb hby die_4) rfl (XT.i0_ne_f (by decide)) kQ) ?_
  show OwnDone p e below _ (T1.setTop (mkF m 7 #[.val (.ref ao)] []))
  refine OwnDone.go (A := (T1.setTop (mkF m 12 #[.val (.ref ao)] [(.int (1 : Int32))]))) (fun tQ kQ => ?_) ?_
  · refine XS.iconst P1.here hx rfl (hb hby die_7) ?_
    show Steps p.tables e below (T1.setTop (mkF m 8 #[.val (.ref ao)] [(.int (1 : Int32))])) _
    refine XS.goto P1.here hx rfl (pc0 := 8) (pc' := 12) rfl (hb hby die_8) (by decide) (by decide) ?_
    show Steps p.tables e below (T1.setTop (mkF m 12 #[.val (.ref ao)] [(.int (1 : Int32))])) _
    exact kQ
  show OwnDone p e below _ (T1.setTop (mkF m 12 #[.val (.ref ao)] [(.int (1 : Int32))]))
  refine own_retN C P1 (by simp) (z' := (1 : Int32)) (by decide) die_12 (by decide) (by decide) ⟨rfl, rfl⟩
theorem dkc_0 : decode jdk_2589_method_1_code 0 = .ok (.aload_n 0, 1) := by decide +kernel
theorem dkc_1 : decode jdk_2589_method_1_code 1 = .ok (.aload_n 1, 1) := by decide +kernel
theorem dkc_2 : decode jdk_2589_method_1_code 2 = .ok (.putfield 1, 3) := by decide +kernel
theorem dkc_5 : decode jdk_2589_method_1_code 5 = .ok (.aload_n 0, 1) := by decide +kernel
theorem dkc_6 : decode jdk_2589_method_1_code 6 = .ok (.invokespecial 7, 3) := by decide +kernel
theorem dkc_9 : decode jdk_2589_method_1_code 9 = .ok (.return_, 1) := by decide +kernel
theorem pnkc : plainName "java/util/IdentityHashMap$KeySet" = true := by first | (simp [plainName, overriddenIn]; done) | decide +kernel
theorem efkc (m : MethodId) (ao : Addr) (ma : Addr)  : entryFrame m #[(.ref ao), (.ref ma)] 2 = mkF m 0 #[.val (.ref ao), .val (.ref ma)] [] := by first | (simp [entryFrame, mkF, argsToLocals, Value.category]; done) | rfl
set_option maxRecDepth 65536 in
set_option maxHeartbeats 40000000 in
theorem rmkc (l : Launch) (Z : State) (a0 : Array Value) (hw : ∀ d ∈ tables_1, d.before a0 Z = true) (ao : Addr) (ma : Addr)  (h0 : Heap) (hE : Ext Z.heap h0) (g_ao : Z.heap.size ≤ ao) (Oa : OwnObj Z h0 ao "java/util/IdentityHashMap$KeySet" own_lay1 [.null]) :
    OwnMeets l (⟨"java/util/IdentityHashMap$KeySet", "<init>", "(Ljava/util/IdentityHashMap;)V"⟩ : MethodName) jdk_2589_method_1_code 2 none ({ frames := 3, cells := 0, slots := 0, locals := 36 } : Room) Z [ao] #[(.ref ao), (.ref ma)] h0 (fun v h => v = none) := by
  refine OwnMeets.of (plainFor_of_name pnkc) hE (allS g_ao all0) ?_
  intro p e s m below meth c T C P
  have hx := C.1
  have hby := C.2.2.2.2.1
  rw [show entryFrame m #[(.ref ao), (.ref ma)] 2 = _ from efkc m ao ma]
  show OwnDone p e below _ (T.setTop (mkF m 0 #[.val (.ref ao), .val (.ref ma)] []))
  refine OwnDone.go (A := (T.setTop (mkF m 2 #[.val (.ref ao), .val (.ref ma)] [(.ref ma), (.ref ao)]))) (fun tQ kQ => ?_) ?_
  · refine XS.aloadN P.here hx rfl (hb hby dkc_0) rfl rfl ?_
    show Steps p.tables e below (T.setTop (mkF m 1 #[.val (.ref ao), .val (.ref ma)] [(.ref ao)])) _
    refine XS.aloadN P.here hx rfl (hb hby dkc_1) rfl rfl ?_
    show Steps p.tables e below (T.setTop (mkF m 2 #[.val (.ref ao), .val (.ref ma)] [(.ref ma), (.ref ao)])) _
    exact kQ
  show OwnDone p e below _ (T.setTop (mkF m 2 #[.val (.ref ao), .val (.ref ma)] [(.ref ma), (.ref ao)]))
  refine own_putO (ty := (.object "java/util/IdentityHashMap")) C P (hw _ (List.mem_of_getElem? (i := 102) rfl)) Via.refl Oa (own_laid1 hw) 0 rfl rfl (Or.inr ⟨(hw _ (List.mem_of_getElem? (i := 103) rfl)), rfl, rfl⟩) (hw _ (List.mem_of_getElem? (i := 96) rfl)) (by decide) rfl rfl (Or.inl (List.mem_of_getElem? (i := 0) rfl)) dkc_2 (vs' := [(.ref ma)]) rfl (fun T1 h1 P1 K1 O1 => ?_)
  show OwnDone p e below _ (T1.setTop (mkF m 5 #[.val (.ref ao), .val (.ref ma)] []))
  refine OwnDone.go (A := (T1.setTop (mkF m 6 #[.val (.ref ao), .val (.ref ma)] [(.ref ao)]))) (fun tQ kQ => ?_) ?_
  · refine XS.aloadN P1.here hx rfl (hb hby dkc_5) rfl rfl ?_
    show Steps p.tables e below (T1.setTop (mkF m 6 #[.val (.ref ao), .val (.ref ma)] [(.ref ao)])) _
    exact kQ
  show OwnDone p e below _ (T1.setTop (mkF m 6 #[.val (.ref ao), .val (.ref ma)] [(.ref ao)]))
  refine own_callI (y := (⟨"java/util/AbstractSet", "<init>", "()V"⟩ : MethodName)) C P1 rfl (hw _ (List.mem_of_getElem? (i := 104) rfl)) (hw _ (List.mem_of_getElem? (i := 70) rfl)) (hw _ (List.mem_of_getElem? (i := 73) rfl)) (hw _ (List.mem_of_getElem? (i := 74) rfl)) (by decide) (rmas l Z a0 hw ao h1 P1.old) (as := []) (rest := []) pd_0 rfl rfl (wd := 0) rfl rfl dkc_6 all0 (by decide) (by decide) (by decide) (by decide) (fun T2 h2 v2 P2 K2 hQ2 => ?_)
  obtain ⟨rfl, rfl⟩ := hQ2
  show OwnDone p e below _ (T2.setTop (mkF m 9 #[.val (.ref ao), .val (.ref ma)] []))
  refine own_retV C P2 dkc_9 (by decide) (by decide) rfl
theorem dik_0 : decode jdk_2581_method_26_code 0 = .ok (.aload_n 0, 1) := by decide +kernel
theorem dik_1 : decode jdk_2581_method_26_code 1 = .ok (.getfield 167, 3) := by decide +kernel
theorem dik_4 : decode jdk_2581_method_26_code 4 = .ok (.astore_n 1, 1) := by decide +kernel
theorem dik_5 : decode jdk_2581_method_26_code 5 = .ok (.aload_n 1, 1) := by decide +kernel
theorem dik_6 : decode jdk_2581_method_26_code 6 = .ok (.ifnonnull 17, 3) := by decide +kernel
theorem dik_9 : decode jdk_2581_method_26_code 9 = .ok (.new 170, 3) := by decide +kernel
theorem dik_12 : decode jdk_2581_method_26_code 12 = .ok (.dup, 1) := by decide +kernel
theorem dik_13 : decode jdk_2581_method_26_code 13 = .ok (.aload_n 0, 1) := by decide +kernel
theorem dik_14 : decode jdk_2581_method_26_code 14 = .ok (.invokespecial 172, 3) := by decide +kernel
theorem dik_17 : decode jdk_2581_method_26_code 17 = .ok (.astore_n 1, 1) := by decide +kernel
theorem dik_18 : decode jdk_2581_method_26_code 18 = .ok (.aload_n 0, 1) := by decide +kernel
theorem dik_19 : decode jdk_2581_method_26_code 19 = .ok (.aload_n 1, 1) := by decide +kernel
theorem dik_20 : decode jdk_2581_method_26_code 20 = .ok (.putfield 167, 3) := by decide +kernel
theorem dik_23 : decode jdk_2581_method_26_code 23 = .ok (.aload_n 1, 1) := by decide +kernel
theorem dik_24 : decode jdk_2581_method_26_code 24 = .ok (.areturn, 1) := by decide +kernel
theorem pnik : plainName "java/util/IdentityHashMap" = true := by first | (simp [plainName, overriddenIn]; done) | decide +kernel
theorem efik (m : MethodId) (ao : Addr)  : entryFrame m #[(.ref ao)] 2 = mkF m 0 #[.val (.ref ao), .unset] [] := by first | (simp [entryFrame, mkF, argsToLocals, Value.category]; done) | rfl
set_option maxRecDepth 65536 in
set_option maxHeartbeats 40000000 in
theorem rmik (l : Launch) (Z : State) (a0 : Array Value) (hw : ∀ d ∈ tables_1, d.before a0 Z = true) (ao : Addr) (t : Addr) (h0 : Heap) (hE : Ext Z.heap h0) (g_ao : Z.heap.size ≤ ao) (Oa : OwnObj Z h0 ao "java/util/IdentityHashMap" own_lay0 [(.ref t), (.int (0 : Int32)), .null]) :
    OwnMeets l (⟨"java/util/IdentityHashMap", "keySet", "()Ljava/util/Set;"⟩ : MethodName) jdk_2581_method_26_code 2 (some (.object "java/util/Set")) ({ frames := 4, cells := 1, slots := 1, locals := 50 } : Room) Z [ao] #[(.ref ao)] h0 (fun v h => ∃ k, v = some (.ref k)) := by
  refine OwnMeets.of (plainFor_of_name pnik) hE (allS g_ao all0) ?_
  intro p e s m below meth c T C P
  have hx := C.1
  have hby := C.2.2.2.2.1
  rw [show entryFrame m #[(.ref ao)] 2 = _ from efik m ao]
  show OwnDone p e below _ (T.setTop (mkF m 0 #[.val (.ref ao), .unset] []))
  refine OwnDone.go (A := (T.setTop (mkF m 1 #[.val (.ref ao), .unset] [(.ref ao)]))) (fun tQ kQ => ?_) ?_
  · refine XS.aloadN P.here hx rfl (hb hby dik_0) rfl rfl ?_
    show Steps p.tables e below (T.setTop (mkF m 1 #[.val (.ref ao), .unset] [(.ref ao)])) _
    exact kQ
  show OwnDone p e below _ (T.setTop (mkF m 1 #[.val (.ref ao), .unset] [(.ref ao)]))
  refine own_getF C P (host := "") (Or.inl (hw _ (List.mem_of_getElem? (i := 92) rfl))) (Via.of (hw _ (List.mem_of_getElem? (i := 93) rfl))) (Oa.2 2 _ _ _ _ rfl rfl) dik_1 (fun T1 P1 => ?_)
  show OwnDone p e below _ (T1.setTop (mkF m 4 #[.val (.ref ao), .unset] [.null]))
  refine OwnDone.go (A := (T1.setTop (mkF m 6 #[.val (.ref ao), .val .null] [.null]))) (fun tQ kQ => ?_) ?_
  · refine XS.astoreN P1.here hx rfl (hb hby dik_4) rfl rfl (l' := #[.val (.ref ao), .val .null]) rfl ?_
    show Steps p.tables e below (T1.setTop (mkF m 5 #[.val (.ref ao), .val .null] [])) _
    refine XS.aloadN P1.here hx rfl (hb hby dik_5) rfl rfl ?_
    show Steps p.tables e below (T1.setTop (mkF m 6 #[.val (.ref ao), .val .null] [.null])) _
    exact kQ
  show OwnDone p e below _ (T1.setTop (mkF m 6 #[.val (.ref ao), .val .null] [.null]))
  refine OwnDone.go (A := (T1.setTop (mkF m 9 #[.val (.ref ao), .val .null] []))) (fun tQ kQ => XT.ifnonnullNo P1.here hx rfl (hb hby dik_6) rfl kQ) ?_
  show OwnDone p e below _ (T1.setTop (mkF m 9 #[.val (.ref ao), .val .null] []))
  refine own_new (vs := [.null]) C P1 (hw _ (List.mem_of_getElem? (i := 95) rfl)) (hw _ (List.mem_of_getElem? (i := 96) rfl)) (hw _ (List.mem_of_getElem? (i := 97) rfl)) (own_laid1 hw) (by decide +kernel) dik_9 (by decide) (by decide) (fun T2 h2 a2 ga2 la2 P2 K2 O2 => ?_)
  have ge_a2 : h0.size ≤ a2 := by rw [ga2]; exact P1.keep.1
  have ne_ao_a2 : ao ≠ a2 := by rw [ga2]; exact Nat.ne_of_lt Oa.lt
  have O3_ao := Oa.keep K2 nin0
  show OwnDone p e below _ (T2.setTop (mkF m 12 #[.val (.ref ao), .val .null] [(.ref a2)]))
  refine OwnDone.go (A := (T2.setTop (mkF m 14 #[.val (.ref ao), .val .null] [(.ref ao), (.ref a2), (.ref a2)]))) (fun tQ kQ => ?_) ?_
  · refine XS.dup P2.here hx rfl (hb hby dik_12) rfl rfl ?_
    show Steps p.tables e below (T2.setTop (mkF m 13 #[.val (.ref ao), .val .null] [(.ref a2), (.ref a2)])) _
    refine XS.aloadN P2.here hx rfl (hb hby dik_13) rfl rfl ?_
    show Steps p.tables e below (T2.setTop (mkF m 14 #[.val (.ref ao), .val .null] [(.ref ao), (.ref a2), (.ref a2)])) _
    exact kQ
  show OwnDone p e below _ (T2.setTop (mkF m 14 #[.val (.ref ao), .val .null] [(.ref ao), (.ref a2), (.ref a2)]))
  refine own_callIR (y := (⟨"java/util/IdentityHashMap$KeySet", "<init>", "(Ljava/util/IdentityHashMap;)V"⟩ : MethodName)) C P2 rfl (hw _ (List.mem_of_getElem? (i := 98) rfl)) (hw _ (List.mem_of_getElem? (i := 99) rfl)) (hw _ (List.mem_of_getElem? (i := 97) rfl)) (hw _ (List.mem_of_getElem? (i := 101) rfl)) (by decide) (rmkc l Z a0 hw a2 ao h2 P2.old (Nat.le_trans hE.1 ge_a2) O2) (as := [(.ref ao)]) (rest := [(.ref a2)]) pd_2 rfl rfl (wd := 1) rfl rfl dik_14 (allS (Or.inr ge_a2) all0) (by decide) (by decide) (by decide) (by decide) (fun T4 h4 v4 P4 K4 hQ4 => ?_)
  obtain rfl := hQ4
  have O5_ao := O3_ao.keep K4 (ninS ne_ao_a2 nin0)
  show OwnDone p e below _ (T4.setTop (mkF m 17 #[.val (.ref ao), .val .null] [(.ref a2)]))
  refine OwnDone.go (A := (T4.setTop (mkF m 20 #[.val (.ref ao), .val (.ref a2)] [(.ref a2), (.ref ao)]))) (fun tQ kQ => ?_) ?_
  · refine XS.astoreN P4.here hx rfl (hb hby dik_17) rfl rfl (l' := #[.val (.ref ao), .val (.ref a2)]) rfl ?_
    show Steps p.tables e below (T4.setTop (mkF m 18 #[.val (.ref ao), .val (.ref a2)] [])) _
    refine XS.aloadN P4.here hx rfl (hb hby dik_18) rfl rfl ?_
    show Steps p.tables e below (T4.setTop (mkF m 19 #[.val (.ref ao), .val (.ref a2)] [(.ref ao)])) _
    refine XS.aloadN P4.here hx rfl (hb hby dik_19) rfl rfl ?_
    show Steps p.tables e below (T4.setTop (mkF m 20 #[.val (.ref ao), .val (.ref a2)] [(.ref a2), (.ref ao)])) _
    exact kQ
  show OwnDone p e below _ (T4.setTop (mkF m 20 #[.val (.ref ao), .val (.ref a2)] [(.ref a2), (.ref ao)]))
  refine own_putO (ty := (.object "java/util/Set")) C P4 (hw _ (List.mem_of_getElem? (i := 92) rfl)) (Via.of (hw _ (List.mem_of_getElem? (i := 93) rfl))) O5_ao (own_laid0 hw) 2 rfl rfl (Or.inl (hw _ (List.mem_of_getElem? (i := 94) rfl))) (hw _ (List.mem_of_getElem? (i := 26) rfl)) (by decide) rfl rfl (Or.inl (List.mem_of_getElem? (i := 0) rfl)) dik_20 (vs' := [(.ref t), (.int (0 : Int32)), (.ref a2)]) rfl (fun T6 h6 P6 K6 O6 => ?_)
  show OwnDone p e below _ (T6.setTop (mkF m 23 #[.val (.ref ao), .val (.ref a2)] []))
  refine OwnDone.go (A := (T6.setTop (mkF m 24 #[.val (.ref ao), .val (.ref a2)] [(.ref a2)]))) (fun tQ kQ => ?_) ?_
  · refine XS.aloadN P6.here hx rfl (hb hby dik_23) rfl rfl ?_
    show Steps p.tables e below (T6.setTop (mkF m 24 #[.val (.ref ao), .val (.ref a2)] [(.ref a2)])) _
    exact kQ
  show OwnDone p e below _ (T6.setTop (mkF m 24 #[.val (.ref ao), .val (.ref a2)] [(.ref a2)]))
  refine own_retA C P6 rfl rfl dik_24 (by decide) (by decide) ⟨_, rfl⟩
theorem dsi_0 : decode jdk_2486_method_1_code 0 = .ok (.aload_n 0, 1) := by decide +kernel
theorem dsi_1 : decode jdk_2486_method_1_code 1 = .ok (.invokespecial 1, 3) := by decide +kernel
theorem dsi_4 : decode jdk_2486_method_1_code 4 = .ok (.aload_n 0, 1) := by decide +kernel
theorem dsi_5 : decode jdk_2486_method_1_code 5 = .ok (.aload_n 1, 1) := by decide +kernel
theorem dsi_6 : decode jdk_2486_method_1_code 6 = .ok (.putfield 7, 3) := by decide +kernel
theorem dsi_9 : decode jdk_2486_method_1_code 9 = .ok (.aload_n 0, 1) := by decide +kernel
theorem dsi_10 : decode jdk_2486_method_1_code 10 = .ok (.aload_n 1, 1) := by decide +kernel
theorem dsi_11 : decode jdk_2486_method_1_code 11 = .ok (.invokeinterface 13 1, 5) := by decide +kernel
theorem dsi_16 : decode jdk_2486_method_1_code 16 = .ok (.putfield 19, 3) := by decide +kernel
theorem dsi_19 : decode jdk_2486_method_1_code 19 = .ok (.return_, 1) := by decide +kernel
theorem pnsi : plainName "java/util/Collections$SetFromMap" = true := by first | (simp [plainName, overriddenIn]; done) | decide +kernel
theorem efsi (m : MethodId) (ao : Addr) (ma : Addr)  : entryFrame m #[(.ref ao), (.ref ma)] 2 = mkF m 0 #[.val (.ref ao), .val (.ref ma)] [] := by first | (simp [entryFrame, mkF, argsToLocals, Value.category]; done) | rfl
set_option maxRecDepth 65536 in
set_option maxHeartbeats 40000000 in
theorem rmsi (l : Launch) (Z : State) (a0 : Array Value) (hw : ∀ d ∈ tables_1, d.before a0 Z = true) (ao : Addr) (ma : Addr) (t : Addr) (h0 : Heap) (hE : Ext Z.heap h0) (g_ao : Z.heap.size ≤ ao) (g_ma : Z.heap.size ≤ ma) (Oa : OwnObj Z h0 ao "java/util/Collections$SetFromMap" own_lay2 [.null, .null]) (Ob : OwnObj Z h0 ma "java/util/IdentityHashMap" own_lay0 [(.ref t), (.int (0 : Int32)), .null]) (nam : ao ≠ ma) :
    OwnMeets l (⟨"java/util/Collections$SetFromMap", "<init>", "(Ljava/util/Map;)V"⟩ : MethodName) jdk_2486_method_1_code 2 none ({ frames := 5, cells := 1, slots := 1, locals := 64 } : Room) Z [ao, ma] #[(.ref ao), (.ref ma)] h0 (fun v h => v = none) := by
  refine OwnMeets.of (plainFor_of_name pnsi) hE (allS g_ao (allS g_ma all0)) ?_
  intro p e s m below meth c T C P
  have hx := C.1
  have hby := C.2.2.2.2.1
  rw [show entryFrame m #[(.ref ao), (.ref ma)] 2 = _ from efsi m ao ma]
  show OwnDone p e below _ (T.setTop (mkF m 0 #[.val (.ref ao), .val (.ref ma)] []))
  refine OwnDone.go (A := (T.setTop (mkF m 1 #[.val (.ref ao), .val (.ref ma)] [(.ref ao)]))) (fun tQ kQ => ?_) ?_
  · refine XS.aloadN P.here hx rfl (hb hby dsi_0) rfl rfl ?_
    show Steps p.tables e below (T.setTop (mkF m 1 #[.val (.ref ao), .val (.ref ma)] [(.ref ao)])) _
    exact kQ
  show OwnDone p e below _ (T.setTop (mkF m 1 #[.val (.ref ao), .val (.ref ma)] [(.ref ao)]))
  refine own_callI (y := (⟨"java/util/AbstractSet", "<init>", "()V"⟩ : MethodName)) C P rfl (hw _ (List.mem_of_getElem? (i := 69) rfl)) (hw _ (List.mem_of_getElem? (i := 70) rfl)) (hw _ (List.mem_of_getElem? (i := 73) rfl)) (hw _ (List.mem_of_getElem? (i := 74) rfl)) (by decide) (rmas l Z a0 hw ao h0 P.old) (as := []) (rest := []) pd_0 rfl rfl (wd := 0) rfl rfl dsi_1 all0 (by decide) (by decide) (by decide) (by decide) (fun T1 h1 v1 P1 K1 hQ1 => ?_)
  obtain ⟨rfl, rfl⟩ := hQ1
  show OwnDone p e below _ (T1.setTop (mkF m 4 #[.val (.ref ao), .val (.ref ma)] []))
  refine OwnDone.go (A := (T1.setTop (mkF m 6 #[.val (.ref ao), .val (.ref ma)] [(.ref ma), (.ref ao)]))) (fun tQ kQ => ?_) ?_
  · refine XS.aloadN P1.here hx rfl (hb hby dsi_4) rfl rfl ?_
    show Steps p.tables e below (T1.setTop (mkF m 5 #[.val (.ref ao), .val (.ref ma)] [(.ref ao)])) _
    refine XS.aloadN P1.here hx rfl (hb hby dsi_5) rfl rfl ?_
    show Steps p.tables e below (T1.setTop (mkF m 6 #[.val (.ref ao), .val (.ref ma)] [(.ref ma), (.ref ao)])) _
    exact kQ
  show OwnDone p e below _ (T1.setTop (mkF m 6 #[.val (.ref ao), .val (.ref ma)] [(.ref ma), (.ref ao)]))
  refine own_putO (ty := (.object "java/util/Map")) C P1 (hw _ (List.mem_of_getElem? (i := 82) rfl)) Via.refl Oa (own_laid2 hw) 0 rfl rfl (Or.inr ⟨(hw _ (List.mem_of_getElem? (i := 83) rfl)), rfl, rfl⟩) (hw _ (List.mem_of_getElem? (i := 63) rfl)) (by decide) rfl rfl (Or.inl (List.mem_of_getElem? (i := 0) rfl)) dsi_6 (vs' := [(.ref ma), .null]) rfl (fun T2 h2 P2 K2 O2 => ?_)
  have O3_ma := Ob.keep K2 (ninS (Ne.symm nam) nin0)
  show OwnDone p e below _ (T2.setTop (mkF m 9 #[.val (.ref ao), .val (.ref ma)] []))
  refine OwnDone.go (A := (T2.setTop (mkF m 11 #[.val (.ref ao), .val (.ref ma)] [(.ref ma), (.ref ao)]))) (fun tQ kQ => ?_) ?_
  · refine XS.aloadN P2.here hx rfl (hb hby dsi_9) rfl rfl ?_
    show Steps p.tables e below (T2.setTop (mkF m 10 #[.val (.ref ao), .val (.ref ma)] [(.ref ao)])) _
    refine XS.aloadN P2.here hx rfl (hb hby dsi_10) rfl rfl ?_
    show Steps p.tables e below (T2.setTop (mkF m 11 #[.val (.ref ao), .val (.ref ma)] [(.ref ma), (.ref ao)])) _
    exact kQ
  show OwnDone p e below _ (T2.setTop (mkF m 11 #[.val (.ref ao), .val (.ref ma)] [(.ref ma), (.ref ao)]))
  refine own_callF (y := (⟨"java/util/Map", "keySet", "()Ljava/util/Set;"⟩ : MethodName)) (z := (⟨"java/util/IdentityHashMap", "keySet", "()Ljava/util/Set;"⟩ : MethodName)) (CC := "java/util/IdentityHashMap") C P2 O3_ma.1 (hw _ (List.mem_of_getElem? (i := 84) rfl)) (hw _ (List.mem_of_getElem? (i := 85) rfl)) (hw _ (List.mem_of_getElem? (i := 86) rfl)) (by first | rfl | decide) (hw _ (List.mem_of_getElem? (i := 87) rfl)) (hw _ (List.mem_of_getElem? (i := 88) rfl)) (hw _ (List.mem_of_getElem? (i := 89) rfl)) (hw _ (List.mem_of_getElem? (i := 90) rfl)) (hw _ (List.mem_of_getElem? (i := 58) rfl)) (hw _ (List.mem_of_getElem? (i := 27) rfl)) (hw _ (List.mem_of_getElem? (i := 91) rfl)) (by decide) (rmik l Z a0 hw ma t h2 P2.old g_ma O3_ma) (as := []) (rest := [(.ref ao)]) pd_3 rfl rfl (wd := 1) rfl rfl dsi_11 (allS (Or.inl (List.mem_of_getElem? (i := 1) rfl)) all0) (by decide) (by decide) (by decide) (by decide) (fun T4 h4 v4 P4 K4 hQ4 => ?_)
  obtain ⟨k4, rfl⟩ := hQ4
  have O5_ao := O2.keep K4 (ninS nam nin0)
  show OwnDone p e below _ (T4.setTop (mkF m 16 #[.val (.ref ao), .val (.ref ma)] [(.ref k4), (.ref ao)]))
  refine own_putO (ty := (.object "java/util/Set")) C P4 (hw _ (List.mem_of_getElem? (i := 107) rfl)) Via.refl O5_ao (own_laid2 hw) 1 rfl rfl (Or.inl (hw _ (List.mem_of_getElem? (i := 108) rfl))) (hw _ (List.mem_of_getElem? (i := 63) rfl)) (by decide) rfl rfl (Or.inl (List.mem_of_getElem? (i := 0) rfl)) dsi_16 (vs' := [(.ref ma), (.ref k4)]) rfl (fun T6 h6 P6 K6 O6 => ?_)
  show OwnDone p e below _ (T6.setTop (mkF m 19 #[.val (.ref ao), .val (.ref ma)] []))
  refine own_retV C P6 dsi_19 (by decide) (by decide) rfl
theorem dns_0 : decode jdk_79_method_85_code 0 = .ok (.aload_n 0, 1) := by decide +kernel
theorem dns_1 : decode jdk_79_method_85_code 1 = .ok (.invokeinterface 464 1, 5) := by decide +kernel
theorem dns_6 : decode jdk_79_method_85_code 6 = .ok (.ifCond .ne 14, 3) := by decide +kernel
theorem dns_20 : decode jdk_79_method_85_code 20 = .ok (.new 469, 3) := by decide +kernel
theorem dns_23 : decode jdk_79_method_85_code 23 = .ok (.dup, 1) := by decide +kernel
theorem dns_24 : decode jdk_79_method_85_code 24 = .ok (.aload_n 0, 1) := by decide +kernel
theorem dns_25 : decode jdk_79_method_85_code 25 = .ok (.invokespecial 471, 3) := by decide +kernel
theorem dns_28 : decode jdk_79_method_85_code 28 = .ok (.areturn, 1) := by decide +kernel
theorem pnns : plainName "java/util/Collections" = true := by first | (simp [plainName, overriddenIn]; done) | decide +kernel
theorem efns (m : MethodId) (ma : Addr)  : entryFrame m #[(.ref ma)] 1 = mkF m 0 #[.val (.ref ma)] [] := by first | (simp [entryFrame, mkF, argsToLocals, Value.category]; done) | rfl
set_option maxRecDepth 65536 in
set_option maxHeartbeats 40000000 in
theorem rmns (l : Launch) (Z : State) (a0 : Array Value) (hw : ∀ d ∈ tables_1, d.before a0 Z = true) (ma : Addr) (t : Addr) (h0 : Heap) (hE : Ext Z.heap h0) (g_ma : Z.heap.size ≤ ma) (Ob : OwnObj Z h0 ma "java/util/IdentityHashMap" own_lay0 [(.ref t), (.int (0 : Int32)), .null]) :
    OwnMeets l (⟨"java/util/Collections", "newSetFromMap", "(Ljava/util/Map;)Ljava/util/Set;"⟩ : MethodName) jdk_79_method_85_code 1 (some (.object "java/util/Set")) ({ frames := 6, cells := 2, slots := 3, locals := 78 } : Room) Z [ma] #[(.ref ma)] h0 (fun v h => ∃ k, v = some (.ref k)) := by
  refine OwnMeets.of (plainFor_of_name pnns) hE (allS g_ma all0) ?_
  intro p e s m below meth c T C P
  have hx := C.1
  have hby := C.2.2.2.2.1
  rw [show entryFrame m #[(.ref ma)] 1 = _ from efns m ma]
  show OwnDone p e below _ (T.setTop (mkF m 0 #[.val (.ref ma)] []))
  refine OwnDone.go (A := (T.setTop (mkF m 1 #[.val (.ref ma)] [(.ref ma)]))) (fun tQ kQ => ?_) ?_
  · refine XS.aloadN P.here hx rfl (hb hby dns_0) rfl rfl ?_
    show Steps p.tables e below (T.setTop (mkF m 1 #[.val (.ref ma)] [(.ref ma)])) _
    exact kQ
  show OwnDone p e below _ (T.setTop (mkF m 1 #[.val (.ref ma)] [(.ref ma)]))
  refine own_callF (y := (⟨"java/util/Map", "isEmpty", "()Z"⟩ : MethodName)) (z := (⟨"java/util/IdentityHashMap", "isEmpty", "()Z"⟩ : MethodName)) (CC := "java/util/IdentityHashMap") C P Ob.1 (hw _ (List.mem_of_getElem? (i := 51) rfl)) (hw _ (List.mem_of_getElem? (i := 52) rfl)) (hw _ (List.mem_of_getElem? (i := 53) rfl)) (by first | rfl | decide) (hw _ (List.mem_of_getElem? (i := 54) rfl)) (hw _ (List.mem_of_getElem? (i := 55) rfl)) (hw _ (List.mem_of_getElem? (i := 56) rfl)) (hw _ (List.mem_of_getElem? (i := 57) rfl)) (hw _ (List.mem_of_getElem? (i := 58) rfl)) (hw _ (List.mem_of_getElem? (i := 27) rfl)) (hw _ (List.mem_of_getElem? (i := 59) rfl)) (by decide) (rmie l Z a0 hw ma t h0 P.old Ob) (as := []) (rest := []) pd_4 rfl rfl (wd := 0) rfl rfl dns_1 all0 (by decide) (by decide) (by decide) (by decide) (fun T1 h1 v1 P1 K1 hQ1 => ?_)
  obtain ⟨rfl, rfl⟩ := hQ1
  show OwnDone p e below _ (T1.setTop (mkF m 6 #[.val (.ref ma)] [(.int (1 : Int32))]))
  refine OwnDone.go (A := (T1.setTop (mkF m 20 #[.val (.ref ma)] []))) (fun tQ kQ => XS.ifYes P1.here hx rfl (pc0 := 6) (pc' := 20) rfl (hb hby dns_6) rfl (XT.i0_ne_t (by decide)) (by decide) (by decide) kQ) ?_
  show OwnDone p e below _ (T1.setTop (mkF m 20 #[.val (.ref ma)] []))
  refine own_new (vs := [.null, .null]) C P1 (hw _ (List.mem_of_getElem? (i := 62) rfl)) (hw _ (List.mem_of_getElem? (i := 63) rfl)) (hw _ (List.mem_of_getElem? (i := 64) rfl)) (own_laid2 hw) (by decide +kernel) dns_20 (by decide) (by decide) (fun T2 h2 a2 ga2 la2 P2 K2 O2 => ?_)
  have ge_a2 : h0.size ≤ a2 := by rw [ga2]; exact P1.keep.1
  have ne_ma_a2 : ma ≠ a2 := by rw [ga2]; exact Nat.ne_of_lt Ob.lt
  have O3_ma := Ob.keep K2 nin0
  show OwnDone p e below _ (T2.setTop (mkF m 23 #[.val (.ref ma)] [(.ref a2)]))
  refine OwnDone.go (A := (T2.setTop (mkF m 25 #[.val (.ref ma)] [(.ref ma), (.ref a2), (.ref a2)]))) (fun tQ kQ => ?_) ?_
  · refine XS.dup P2.here hx rfl (hb hby dns_23) rfl rfl ?_
    show Steps p.tables e below (T2.setTop (mkF m 24 #[.val (.ref ma)] [(.ref a2), (.ref a2)])) _
    refine XS.aloadN P2.here hx rfl (hb hby dns_24) rfl rfl ?_
    show Steps p.tables e below (T2.setTop (mkF m 25 #[.val (.ref ma)] [(.ref ma), (.ref a2), (.ref a2)])) _
    exact kQ
  show OwnDone p e below _ (T2.setTop (mkF m 25 #[.val (.ref ma)] [(.ref ma), (.ref a2), (.ref a2)]))
  refine own_callI (y := (⟨"java/util/Collections$SetFromMap", "<init>", "(Ljava/util/Map;)V"⟩ : MethodName)) C P2 rfl (hw _ (List.mem_of_getElem? (i := 65) rfl)) (hw _ (List.mem_of_getElem? (i := 66) rfl)) (hw _ (List.mem_of_getElem? (i := 64) rfl)) (hw _ (List.mem_of_getElem? (i := 68) rfl)) (by decide) (rmsi l Z a0 hw a2 ma t h2 P2.old (Nat.le_trans hE.1 ge_a2) g_ma O2 O3_ma (Ne.symm ne_ma_a2)) (as := [(.ref ma)]) (rest := [(.ref a2)]) pd_5 rfl rfl (wd := 1) rfl rfl dns_25 (allS (Or.inr ge_a2) (allS (Or.inl (List.mem_of_getElem? (i := 0) rfl)) all0)) (by decide) (by decide) (by decide) (by decide) (fun T4 h4 v4 P4 K4 hQ4 => ?_)
  obtain rfl := hQ4
  show OwnDone p e below _ (T4.setTop (mkF m 28 #[.val (.ref ma)] [(.ref a2)]))
  refine own_retA C P4 rfl rfl dns_28 (by decide) (by decide) ⟨_, rfl⟩
theorem dbi_0 : decode prog_13_method_1_code 0 = .ok (.aload_n 0, 1) := by decide +kernel
theorem dbi_1 : decode prog_13_method_1_code 1 = .ok (.invokespecial 1, 3) := by decide +kernel
theorem dbi_4 : decode prog_13_method_1_code 4 = .ok (.aload_n 0, 1) := by decide +kernel
theorem dbi_5 : decode prog_13_method_1_code 5 = .ok (.bipush 16, 2) := by decide +kernel
theorem dbi_7 : decode prog_13_method_1_code 7 = .ok (.newarray .int, 2) := by decide +kernel
theorem dbi_9 : decode prog_13_method_1_code 9 = .ok (.putfield 7, 3) := by decide +kernel
theorem dbi_12 : decode prog_13_method_1_code 12 = .ok (.aload_n 0, 1) := by decide +kernel
theorem dbi_13 : decode prog_13_method_1_code 13 = .ok (.new 13, 3) := by decide +kernel
theorem dbi_16 : decode prog_13_method_1_code 16 = .ok (.dup, 1) := by decide +kernel
theorem dbi_17 : decode prog_13_method_1_code 17 = .ok (.invokespecial 15, 3) := by decide +kernel
theorem dbi_20 : decode prog_13_method_1_code 20 = .ok (.invokestatic 16, 3) := by decide +kernel
theorem dbi_23 : decode prog_13_method_1_code 23 = .ok (.putfield 22, 3) := by decide +kernel
theorem dbi_26 : decode prog_13_method_1_code 26 = .ok (.return_, 1) := by decide +kernel
theorem pnbi : plainName "com/example/bounded_array/boundedarray/regex/CodePointSet$Builder" = true := by first | (simp [plainName, overriddenIn]; done) | decide +kernel
theorem efbi (m : MethodId) (ao : Addr)  : entryFrame m #[(.ref ao)] 1 = mkF m 0 #[.val (.ref ao)] [] := by first | (simp [entryFrame, mkF, argsToLocals, Value.category]; done) | rfl
set_option maxRecDepth 65536 in
set_option maxHeartbeats 40000000 in
theorem rmbi (l : Launch) (Z : State) (a0 : Array Value) (hw : ∀ d ∈ tables_1, d.before a0 Z = true) (ao : Addr)  (h0 : Heap) (hE : Ext Z.heap h0) (g_ao : Z.heap.size ≤ ao) (Oa : OwnObj Z h0 ao "com/example/bounded_array/boundedarray/regex/CodePointSet$Builder" own_lay3 [.null, .null, (.int (0 : Int32))]) :
    OwnMeets l (⟨"com/example/bounded_array/boundedarray/regex/CodePointSet$Builder", "<init>", "()V"⟩ : MethodName) prog_13_method_1_code 1 none ({ frames := 7, cells := 5, slots := 89, locals := 91 } : Room) Z [ao] #[(.ref ao)] h0 (fun v h => v = none ∧ ∃ b k s, OwnObj Z h ao "com/example/bounded_array/boundedarray/regex/CodePointSet$Builder" own_lay3 [(.ref b), (.ref s), (.int (0 : Int32))] ∧ OwnAry Z h b k .int [(.int (0 : Int32)), (.int (0 : Int32)), (.int (0 : Int32)), (.int (0 : Int32)), (.int (0 : Int32)), (.int (0 : Int32)), (.int (0 : Int32)), (.int (0 : Int32)), (.int (0 : Int32)), (.int (0 : Int32)), (.int (0 : Int32)), (.int (0 : Int32)), (.int (0 : Int32)), (.int (0 : Int32)), (.int (0 : Int32)), (.int (0 : Int32))] ∧ h0.size ≤ b ∧ b ≠ ao) := by
  refine OwnMeets.of (plainFor_of_name pnbi) hE (allS g_ao all0) ?_
  intro p e s m below meth c T C P
  have hx := C.1
  have hby := C.2.2.2.2.1
  rw [show entryFrame m #[(.ref ao)] 1 = _ from efbi m ao]
  show OwnDone p e below _ (T.setTop (mkF m 0 #[.val (.ref ao)] []))
  refine OwnDone.go (A := (T.setTop (mkF m 1 #[.val (.ref ao)] [(.ref ao)]))) (fun tQ kQ => ?_) ?_
  · refine XS.aloadN P.here hx rfl (hb hby dbi_0) rfl rfl ?_
    show Steps p.tables e below (T.setTop (mkF m 1 #[.val (.ref ao)] [(.ref ao)])) _
    exact kQ
  show OwnDone p e below _ (T.setTop (mkF m 1 #[.val (.ref ao)] [(.ref ao)]))
  refine own_initO (wd := 0) (rest := []) C P (hw _ (List.mem_of_getElem? (i := 19) rfl)) (hw _ (List.mem_of_getElem? (i := 20) rfl)) (hw _ (List.mem_of_getElem? (i := 21) rfl)) rfl rfl dbi_1 (by decide) (by decide) (fun T1 P1 => ?_)
  show OwnDone p e below _ (T1.setTop (mkF m 4 #[.val (.ref ao)] []))
  refine OwnDone.go (A := (T1.setTop (mkF m 7 #[.val (.ref ao)] [(.int (16 : Int32)), (.ref ao)]))) (fun tQ kQ => ?_) ?_
  · refine XS.aloadN P1.here hx rfl (hb hby dbi_4) rfl rfl ?_
    show Steps p.tables e below (T1.setTop (mkF m 5 #[.val (.ref ao)] [(.ref ao)])) _
    refine XS.bipush P1.here hx rfl (hb hby dbi_5) ?_
    show Steps p.tables e below (T1.setTop (mkF m 7 #[.val (.ref ao)] [(.int (16 : Int32)), (.ref ao)])) _
    exact kQ
  show OwnDone p e below _ (T1.setTop (mkF m 7 #[.val (.ref ao)] [(.int (16 : Int32)), (.ref ao)]))
  refine own_newP (aty := .int) (n := (16 : Int32)) (cap := 16) (vs := [(.int (0 : Int32)), (.int (0 : Int32)), (.int (0 : Int32)), (.int (0 : Int32)), (.int (0 : Int32)), (.int (0 : Int32)), (.int (0 : Int32)), (.int (0 : Int32)), (.int (0 : Int32)), (.int (0 : Int32)), (.int (0 : Int32)), (.int (0 : Int32)), (.int (0 : Int32)), (.int (0 : Int32)), (.int (0 : Int32)), (.int (0 : Int32))]) C P1 (hw _ (List.mem_of_getElem? (i := 22) rfl)) dbi_7 (by decide) (by decide) (by decide) (by decide +kernel) rfl (by decide) (by decide) (fun T2 h2 a2 k2 ga2 la2 P2 K2 Y2 N2 => ?_)
  have ge_a2 : h0.size ≤ a2 := by rw [ga2]; exact P1.keep.1
  have ne_ao_a2 : ao ≠ a2 := by rw [ga2]; exact Nat.ne_of_lt Oa.lt
  have O3_ao := Oa.keep K2 nin0
  have Y2 : OwnAry Z h2 a2 k2 .int [(.int (0 : Int32)), (.int (0 : Int32)), (.int (0 : Int32)), (.int (0 : Int32)), (.int (0 : Int32)), (.int (0 : Int32)), (.int (0 : Int32)), (.int (0 : Int32)), (.int (0 : Int32)), (.int (0 : Int32)), (.int (0 : Int32)), (.int (0 : Int32)), (.int (0 : Int32)), (.int (0 : Int32)), (.int (0 : Int32)), (.int (0 : Int32))] := Y2
  show OwnDone p e below _ (T2.setTop (mkF m 9 #[.val (.ref ao)] [(.ref a2), (.ref ao)]))
  refine own_putO (ty := (.array .int)) C P2 (hw _ (List.mem_of_getElem? (i := 23) rfl)) Via.refl O3_ao (own_laid3 hw) 0 rfl rfl (Or.inl (hw _ (List.mem_of_getElem? (i := 24) rfl))) (hw _ (List.mem_of_getElem? (i := 14) rfl)) (by decide) rfl rfl (Or.inl (List.mem_of_getElem? (i := 0) rfl)) dbi_9 (vs' := [(.ref a2), .null, (.int (0 : Int32))]) rfl (fun T4 h4 P4 K4 O4 => ?_)
  have Y5_a2 := Y2.keep K4 (ninS (Ne.symm ne_ao_a2) nin0)
  show OwnDone p e below _ (T4.setTop (mkF m 12 #[.val (.ref ao)] []))
  refine OwnDone.go (A := (T4.setTop (mkF m 13 #[.val (.ref ao)] [(.ref ao)]))) (fun tQ kQ => ?_) ?_
  · refine XS.aloadN P4.here hx rfl (hb hby dbi_12) rfl rfl ?_
    show Steps p.tables e below (T4.setTop (mkF m 13 #[.val (.ref ao)] [(.ref ao)])) _
    exact kQ
  show OwnDone p e below _ (T4.setTop (mkF m 13 #[.val (.ref ao)] [(.ref ao)]))
  refine own_new (vs := [.null, (.int (0 : Int32)), .null]) C P4 (hw _ (List.mem_of_getElem? (i := 25) rfl)) (hw _ (List.mem_of_getElem? (i := 26) rfl)) (hw _ (List.mem_of_getElem? (i := 27) rfl)) (own_laid0 hw) (by decide +kernel) dbi_13 (by decide) (by decide) (fun T6 h6 a6 ga6 la6 P6 K6 O6 => ?_)
  have ge_a6 : h0.size ≤ a6 := by rw [ga6]; exact P4.keep.1
  have ne_ao_a6 : ao ≠ a6 := by rw [ga6]; exact Nat.ne_of_lt O4.lt
  have ne_a2_a6 : a2 ≠ a6 := by rw [ga6]; exact Nat.ne_of_lt Y5_a2.lt
  have O7_ao := O4.keep K6 nin0
  have Y8_a2 := Y5_a2.keep K6 nin0
  show OwnDone p e below _ (T6.setTop (mkF m 16 #[.val (.ref ao)] [(.ref a6), (.ref ao)]))
  refine OwnDone.go (A := (T6.setTop (mkF m 17 #[.val (.ref ao)] [(.ref a6), (.ref a6), (.ref ao)]))) (fun tQ kQ => ?_) ?_
  · refine XS.dup P6.here hx rfl (hb hby dbi_16) rfl rfl ?_
    show Steps p.tables e below (T6.setTop (mkF m 17 #[.val (.ref ao)] [(.ref a6), (.ref a6), (.ref ao)])) _
    exact kQ
  show OwnDone p e below _ (T6.setTop (mkF m 17 #[.val (.ref ao)] [(.ref a6), (.ref a6), (.ref ao)]))
  refine own_callI (y := (⟨"java/util/IdentityHashMap", "<init>", "()V"⟩ : MethodName)) C P6 rfl (hw _ (List.mem_of_getElem? (i := 28) rfl)) (hw _ (List.mem_of_getElem? (i := 29) rfl)) (hw _ (List.mem_of_getElem? (i := 27) rfl)) (hw _ (List.mem_of_getElem? (i := 30) rfl)) (by decide) (rmih l Z a0 hw a6 h6 P6.old (Nat.le_trans hE.1 ge_a6) O6) (as := []) (rest := [(.ref a6), (.ref ao)]) pd_0 rfl rfl (wd := 2) rfl rfl dbi_17 (allS (Or.inr ge_a6) all0) (by decide) (by decide) (by decide) (by decide) (fun T9 h9 v9 P9 K9 hQ9 => ?_)
  obtain ⟨rfl, t9, O9⟩ := hQ9
  have O10_ao := O7_ao.keep K9 (ninS ne_ao_a6 nin0)
  have Y11_a2 := Y8_a2.keep K9 (ninS ne_a2_a6 nin0)
  show OwnDone p e below _ (T9.setTop (mkF m 20 #[.val (.ref ao)] [(.ref a6), (.ref ao)]))
  refine own_callS (y := (⟨"java/util/Collections", "newSetFromMap", "(Ljava/util/Map;)Ljava/util/Set;"⟩ : MethodName)) C P9 (hw _ (List.mem_of_getElem? (i := 47) rfl)) (hw _ (List.mem_of_getElem? (i := 48) rfl)) (hw _ (List.mem_of_getElem? (i := 49) rfl)) (hw _ (List.mem_of_getElem? (i := 50) rfl)) (by decide) (rmns l Z a0 hw a6 t9 h9 P9.old (Nat.le_trans hE.1 ge_a6) O9) (as := [(.ref a6)]) (rest := [(.ref ao)]) pd_6 rfl rfl (wd := 1) rfl rfl dbi_20 (allS (Or.inr ge_a6) all0) (by decide) (by decide) (by decide) (by decide) (fun T12 h12 v12 P12 K12 hQ12 => ?_)
  obtain ⟨k12, rfl⟩ := hQ12
  have O13_ao := O10_ao.keep K12 (ninS ne_ao_a6 nin0)
  have Y14_a2 := Y11_a2.keep K12 (ninS ne_a2_a6 nin0)
  show OwnDone p e below _ (T12.setTop (mkF m 23 #[.val (.ref ao)] [(.ref k12), (.ref ao)]))
  refine own_putO (ty := (.object "java/util/Set")) C P12 (hw _ (List.mem_of_getElem? (i := 109) rfl)) Via.refl O13_ao (own_laid3 hw) 1 rfl rfl (Or.inr ⟨(hw _ (List.mem_of_getElem? (i := 110) rfl)), rfl, rfl⟩) (hw _ (List.mem_of_getElem? (i := 14) rfl)) (by decide) rfl rfl (Or.inl (List.mem_of_getElem? (i := 0) rfl)) dbi_23 (vs' := [(.ref a2), (.ref k12), (.int (0 : Int32))]) rfl (fun T15 h15 P15 K15 O15 => ?_)
  have Y16_a2 := Y14_a2.keep K15 (ninS (Ne.symm ne_ao_a2) nin0)
  show OwnDone p e below _ (T15.setTop (mkF m 26 #[.val (.ref ao)] []))
  refine own_retV C P15 dbi_26 (by decide) (by decide) ⟨rfl, _, _, _, O15, Y16_a2, ge_a2, Ne.symm ne_ao_a2⟩
def own_pk (f l : Int32) : Int64 := (((f.toInt64) <<< (((32 : Int32)).toInt64 &&& 63)) ||| (l.toInt64))
theorem own_pk_int {f l : Int32} (hf : 0 ≤ f.toInt) (hl : 0 ≤ l.toInt) : (own_pk f l).toInt = f.toInt * 4294967296 + l.toInt := by
  have h1 := c_lshl f.toInt64 32 32 (by decide)
  have h2 := c_i2l f
  have h3 := c_i2l l
  have h4 := rng32 f
  have h5 := rng32 l
  have h6 := rng64 (f.toInt64 <<< ((32 : Int32) &&& 0x3f).toInt64)
  have h7 := rng64 (own_pk f l)
  have e : (f.toInt64 <<< ((32 : Int32) &&& 0x3f).toInt64).toInt = f.toInt * 4294967296 := by
    simp only [Nat.reducePow] at h1
    omega
  have h8 := c_orL (f.toInt64 <<< ((32 : Int32) &&& 0x3f).toInt64) l.toInt64 32 (by decide) 4294967296 (by decide) (by omega) (by omega) (by omega)
  have e9 : own_pk f l = (f.toInt64 <<< ((32 : Int32) &&& 0x3f).toInt64) ||| l.toInt64 := by
    have e0 : ((32 : Int32).toInt64 &&& 63) = ((32 : Int32) &&& 0x3f).toInt64 := by decide
    rw [own_pk, e0]
  rw [e9] at h7 ⊢
  omega
theorem own_pk_lt {f l f' l' : Int32} (hf : 0 ≤ f.toInt) (hl : 0 ≤ l.toInt) (hf' : 0 ≤ f'.toInt) (hl' : 0 ≤ l'.toInt) : own_pk f l < own_pk f' l' ↔ f < f' ∨ f = f' ∧ l < l' := by
  rw [Int64.lt_iff_toInt_lt, own_pk_int hf hl, own_pk_int hf' hl', Int32.lt_iff_toInt_lt, Int32.lt_iff_toInt_lt, ← Int32.toInt_inj]
  have h4 := rng32 f
  have h5 := rng32 l
  have h6 := rng32 f'
  have h7 := rng32 l'
  omega
theorem own_pk_l {f l : Int32} (hf : 0 ≤ f.toInt) (hl : 0 ≤ l.toInt) : (own_pk f l).toInt32 = l := by
  have h1 := c_l2i (own_pk f l)
  have h2 := own_pk_int hf hl
  have h5 := rng32 l
  have h6 := rng32 (own_pk f l).toInt32
  exact Int32.toInt_inj.mp (by omega)
theorem own_pk_f {f l : Int32} (hf : 0 ≤ f.toInt) (hl : 0 ≤ l.toInt) : (XT.ushrL (own_pk f l) (32 : Int32)).toInt32 = f := by
  have h1 := c_l2i (XT.ushrL (own_pk f l) (32 : Int32))
  have h2 := own_pk_int hf hl
  have h3 : (XT.ushrL (own_pk f l) (32 : Int32)).toInt = ((own_pk f l).toInt % 18446744073709551616) / (2 ^ 32 : Nat) := c_lushr (own_pk f l) 32 32 (by decide) (by decide)
  simp only [Nat.reducePow] at h3
  have h4 := rng32 f
  have h5 := rng32 l
  have h6 := rng32 (XT.ushrL (own_pk f l) (32 : Int32)).toInt32
  exact Int32.toInt_inj.mp (by omega)
theorem dmin_0 : decode jdk_29_method_69_code 0 = .ok (.iload_n 0, 1) := by decide +kernel
theorem dmin_1 : decode jdk_29_method_69_code 1 = .ok (.iload_n 1, 1) := by decide +kernel
theorem dmin_2 : decode jdk_29_method_69_code 2 = .ok (.if_icmp .gt 7, 3) := by decide +kernel
theorem dmin_5 : decode jdk_29_method_69_code 5 = .ok (.iload_n 0, 1) := by decide +kernel
theorem dmin_6 : decode jdk_29_method_69_code 6 = .ok (.goto 4, 3) := by decide +kernel
theorem dmin_9 : decode jdk_29_method_69_code 9 = .ok (.iload_n 1, 1) := by decide +kernel
theorem dmin_10 : decode jdk_29_method_69_code 10 = .ok (.ireturn, 1) := by decide +kernel
theorem efmin (m : MethodId) (x1 : Int32) (x2 : Int32)  : entryFrame m #[(.int x1), (.int x2)] 2 = mkF m 0 #[.val (.int x1), .val (.int x2)] [] := by first | (simp [entryFrame, mkF, argsToLocals, Value.category]; done) | rfl
set_option maxRecDepth 65536 in
set_option maxHeartbeats 40000000 in
theorem rmmin (l : Launch) (Z : State) (a0 : Array Value) (hw : ∀ d ∈ tables_1, d.before a0 Z = true) (x1 : Int32) (x2 : Int32)  (h0 : Heap) (hE : Ext Z.heap h0)   :
    OwnMeets l (⟨"java/lang/Math", "min", "(II)I"⟩ : MethodName) jdk_29_method_69_code 2 (some .int) ({ frames := 0, cells := 0, slots := 0, locals := 0 } : Room) Z [] #[(.int x1), (.int x2)] h0 (fun v h => ∃ r : Int32, v = some (.int r) ∧ (x2 < x1 ∧ r = x2 ∨ ¬ x2 < x1 ∧ r = x1) ∧ h0 = h) := by
  refine OwnMeets.of (by decide +kernel) hE all0 ?_
  intro p e s m below meth c T C P
  have hx := C.1
  have hby := C.2.2.2.2.1
  rw [show entryFrame m #[(.int x1), (.int x2)] 2 = _ from efmin m x1 x2]
  show OwnDone p e below _ (T.setTop (mkF m 0 #[.val (.int x1), .val (.int x2)] []))
  refine OwnDone.go (A := (T.setTop (mkF m 2 #[.val (.int x1), .val (.int x2)] [(.int x2), (.int x1)]))) (fun tQ kQ => ?_) ?_
  · refine XS.iloadN P.here hx rfl (hb hby dmin_0) rfl ?_
    show Steps p.tables e below (T.setTop (mkF m 1 #[.val (.int x1), .val (.int x2)] [(.int x1)])) _
    refine XS.iloadN P.here hx rfl (hb hby dmin_1) rfl ?_
    show Steps p.tables e below (T.setTop (mkF m 2 #[.val (.int x1), .val (.int x2)] [(.int x2), (.int x1)])) _
    exact kQ
  show OwnDone p e below _ (T.setTop (mkF m 2 #[.val (.int x1), .val (.int x2)] [(.int x2), (.int x1)]))
  by_cases hc2 : x2 < x1
  · refine OwnDone.go (A := (T.setTop (mkF m 9 #[.val (.int x1), .val (.int x2)] []))) (fun tQ kQ => XS.icmpYes P.here hx rfl (pc0 := 2) (pc' := 9) rfl (hb hby dmin_2) rfl (XT.ii_gt_t hc2) (by decide) (by decide) kQ) ?_
    show OwnDone p e below _ (T.setTop (mkF m 9 #[.val (.int x1), .val (.int x2)] []))
    refine OwnDone.go (A := (T.setTop (mkF m 10 #[.val (.int x1), .val (.int x2)] [(.int x2)]))) (fun tQ kQ => ?_) ?_
    · refine XS.iloadN P.here hx rfl (hb hby dmin_9) rfl ?_
      show Steps p.tables e below (T.setTop (mkF m 10 #[.val (.int x1), .val (.int x2)] [(.int x2)])) _
      exact kQ
    show OwnDone p e below _ (T.setTop (mkF m 10 #[.val (.int x1), .val (.int x2)] [(.int x2)]))
    refine own_retI C P dmin_10 (by decide) (by decide) ⟨_, rfl, Or.inl ⟨hc2, rfl⟩, rfl⟩
  · refine OwnDone.go (A := (T.setTop (mkF m 5 #[.val (.int x1), .val (.int x2)] []))) (fun tQ kQ => XS.icmpNo P.here hx rfl (hb hby dmin_2) rfl (XT.ii_gt_f hc2) kQ) ?_
    show OwnDone p e below _ (T.setTop (mkF m 5 #[.val (.int x1), .val (.int x2)] []))
    refine OwnDone.go (A := (T.setTop (mkF m 10 #[.val (.int x1), .val (.int x2)] [(.int x1)]))) (fun tQ kQ => ?_) ?_
    · refine XS.iloadN P.here hx rfl (hb hby dmin_5) rfl ?_
      show Steps p.tables e below (T.setTop (mkF m 6 #[.val (.int x1), .val (.int x2)] [(.int x1)])) _
      refine XS.goto P.here hx rfl (pc0 := 6) (pc' := 10) rfl (hb hby dmin_6) (by decide) (by decide) ?_
      show Steps p.tables e below (T.setTop (mkF m 10 #[.val (.int x1), .val (.int x2)] [(.int x1)])) _
      exact kQ
    show OwnDone p e below _ (T.setTop (mkF m 10 #[.val (.int x1), .val (.int x2)] [(.int x1)]))
    refine own_retI C P dmin_10 (by decide) (by decide) ⟨_, rfl, Or.inr ⟨hc2, rfl⟩, rfl⟩
theorem dmax_0 : decode jdk_29_method_65_code 0 = .ok (.iload_n 0, 1) := by decide +kernel
theorem dmax_1 : decode jdk_29_method_65_code 1 = .ok (.iload_n 1, 1) := by decide +kernel
theorem dmax_2 : decode jdk_29_method_65_code 2 = .ok (.if_icmp .lt 7, 3) := by decide +kernel
theorem dmax_5 : decode jdk_29_method_65_code 5 = .ok (.iload_n 0, 1) := by decide +kernel
theorem dmax_6 : decode jdk_29_method_65_code 6 = .ok (.goto 4, 3) := by decide +kernel
theorem dmax_9 : decode jdk_29_method_65_code 9 = .ok (.iload_n 1, 1) := by decide +kernel
theorem dmax_10 : decode jdk_29_method_65_code 10 = .ok (.ireturn, 1) := by decide +kernel
theorem efmax (m : MethodId) (x1 : Int32) (x2 : Int32)  : entryFrame m #[(.int x1), (.int x2)] 2 = mkF m 0 #[.val (.int x1), .val (.int x2)] [] := by first | (simp [entryFrame, mkF, argsToLocals, Value.category]; done) | rfl
set_option maxRecDepth 65536 in
set_option maxHeartbeats 40000000 in
theorem rmmax (l : Launch) (Z : State) (a0 : Array Value) (hw : ∀ d ∈ tables_1, d.before a0 Z = true) (x1 : Int32) (x2 : Int32)  (h0 : Heap) (hE : Ext Z.heap h0)   :
    OwnMeets l (⟨"java/lang/Math", "max", "(II)I"⟩ : MethodName) jdk_29_method_65_code 2 (some .int) ({ frames := 0, cells := 0, slots := 0, locals := 0 } : Room) Z [] #[(.int x1), (.int x2)] h0 (fun v h => ∃ r : Int32, v = some (.int r) ∧ (x1 < x2 ∧ r = x2 ∨ ¬ x1 < x2 ∧ r = x1) ∧ h0 = h) := by
  refine OwnMeets.of (by decide +kernel) hE all0 ?_
  intro p e s m below meth c T C P
  have hx := C.1
  have hby := C.2.2.2.2.1
  rw [show entryFrame m #[(.int x1), (.int x2)] 2 = _ from efmax m x1 x2]
  show OwnDone p e below _ (T.setTop (mkF m 0 #[.val (.int x1), .val (.int x2)] []))
  refine OwnDone.go (A := (T.setTop (mkF m 2 #[.val (.int x1), .val (.int x2)] [(.int x2), (.int x1)]))) (fun tQ kQ => ?_) ?_
  · refine XS.iloadN P.here hx rfl (hb hby dmax_0) rfl ?_
    show Steps p.tables e below (T.setTop (mkF m 1 #[.val (.int x1), .val (.int x2)] [(.int x1)])) _
    refine XS.iloadN P.here hx rfl (hb hby dmax_1) rfl ?_
    show Steps p.tables e below (T.setTop (mkF m 2 #[.val (.int x1), .val (.int x2)] [(.int x2), (.int x1)])) _
    exact kQ
  show OwnDone p e below _ (T.setTop (mkF m 2 #[.val (.int x1), .val (.int x2)] [(.int x2), (.int x1)]))
  by_cases hc2 : x1 < x2
  · refine OwnDone.go (A := (T.setTop (mkF m 9 #[.val (.int x1), .val (.int x2)] []))) (fun tQ kQ => XS.icmpYes P.here hx rfl (pc0 := 2) (pc' := 9) rfl (hb hby dmax_2) rfl (XT.ii_lt_t hc2) (by decide) (by decide) kQ) ?_
    show OwnDone p e below _ (T.setTop (mkF m 9 #[.val (.int x1), .val (.int x2)] []))
    refine OwnDone.go (A := (T.setTop (mkF m 10 #[.val (.int x1), .val (.int x2)] [(.int x2)]))) (fun tQ kQ => ?_) ?_
    · refine XS.iloadN P.here hx rfl (hb hby dmax_9) rfl ?_
      show Steps p.tables e below (T.setTop (mkF m 10 #[.val (.int x1), .val (.int x2)] [(.int x2)])) _
      exact kQ
    show OwnDone p e below _ (T.setTop (mkF m 10 #[.val (.int x1), .val (.int x2)] [(.int x2)]))
    refine own_retI C P dmax_10 (by decide) (by decide) ⟨_, rfl, Or.inl ⟨hc2, rfl⟩, rfl⟩
  · refine OwnDone.go (A := (T.setTop (mkF m 5 #[.val (.int x1), .val (.int x2)] []))) (fun tQ kQ => XS.icmpNo P.here hx rfl (hb hby dmax_2) rfl (XT.ii_lt_f hc2) kQ) ?_
    show OwnDone p e below _ (T.setTop (mkF m 5 #[.val (.int x1), .val (.int x2)] []))
    refine OwnDone.go (A := (T.setTop (mkF m 10 #[.val (.int x1), .val (.int x2)] [(.int x1)]))) (fun tQ kQ => ?_) ?_
    · refine XS.iloadN P.here hx rfl (hb hby dmax_5) rfl ?_
      show Steps p.tables e below (T.setTop (mkF m 6 #[.val (.int x1), .val (.int x2)] [(.int x1)])) _
      refine XS.goto P.here hx rfl (pc0 := 6) (pc' := 10) rfl (hb hby dmax_6) (by decide) (by decide) ?_
      show Steps p.tables e below (T.setTop (mkF m 10 #[.val (.int x1), .val (.int x2)] [(.int x1)])) _
      exact kQ
    show OwnDone p e below _ (T.setTop (mkF m 10 #[.val (.int x1), .val (.int x2)] [(.int x1)]))
    refine own_retI C P dmax_10 (by decide) (by decide) ⟨_, rfl, Or.inr ⟨hc2, rfl⟩, rfl⟩
theorem dmnl_0 : decode jdk_29_method_69_code 0 = .ok (.iload_n 0, 1) := by decide +kernel
theorem dmnl_1 : decode jdk_29_method_69_code 1 = .ok (.iload_n 1, 1) := by decide +kernel
theorem dmnl_2 : decode jdk_29_method_69_code 2 = .ok (.if_icmp .gt 7, 3) := by decide +kernel
theorem dmnl_9 : decode jdk_29_method_69_code 9 = .ok (.iload_n 1, 1) := by decide +kernel
theorem dmnl_10 : decode jdk_29_method_69_code 10 = .ok (.ireturn, 1) := by decide +kernel
theorem efmnl (m : MethodId)   : entryFrame m #[(.int (4 : Int32)), (.int (2 : Int32))] 2 = mkF m 0 #[.val (.int (4 : Int32)), .val (.int (2 : Int32))] [] := by first | (simp [entryFrame, mkF, argsToLocals, Value.category]; done) | rfl
set_option maxRecDepth 65536 in
set_option maxHeartbeats 40000000 in
theorem rmmnl (l : Launch) (Z : State) (a0 : Array Value) (hw : ∀ d ∈ tables_1, d.before a0 Z = true)   (h0 : Heap) (hE : Ext Z.heap h0)   :
    OwnMeets l (⟨"java/lang/Math", "min", "(II)I"⟩ : MethodName) jdk_29_method_69_code 2 (some .int) ({ frames := 0, cells := 0, slots := 0, locals := 0 } : Room) Z [] #[(.int (4 : Int32)), (.int (2 : Int32))] h0 (fun v h => v = some (.int (2 : Int32)) ∧ h0 = h) := by
  refine OwnMeets.of (by decide +kernel) hE all0 ?_
  intro p e s m below meth c T C P
  have hx := C.1
  have hby := C.2.2.2.2.1
  rw [show entryFrame m #[(.int (4 : Int32)), (.int (2 : Int32))] 2 = _ from efmnl m ]
  show OwnDone p e below _ (T.setTop (mkF m 0 #[.val (.int (4 : Int32)), .val (.int (2 : Int32))] []))
  refine OwnDone.go (A := (T.setTop (mkF m 2 #[.val (.int (4 : Int32)), .val (.int (2 : Int32))] [(.int (2 : Int32)), (.int (4 : Int32))]))) (fun tQ kQ => ?_) ?_
  · refine XS.iloadN P.here hx rfl (hb hby dmnl_0) rfl ?_
    show Steps p.tables e below (T.setTop (mkF m 1 #[.val (.int (4 : Int32)), .val (.int (2 : Int32))] [(.int (4 : Int32))])) _
    refine XS.iloadN P.here hx rfl (hb hby dmnl_1) rfl ?_
    show Steps p.tables e below (T.setTop (mkF m 2 #[.val (.int (4 : Int32)), .val (.int (2 : Int32))] [(.int (2 : Int32)), (.int (4 : Int32))])) _
    exact kQ
  show OwnDone p e below _ (T.setTop (mkF m 2 #[.val (.int (4 : Int32)), .val (.int (2 : Int32))] [(.int (2 : Int32)), (.int (4 : Int32))]))
  refine OwnDone.go (A := (T.setTop (mkF m 9 #[.val (.int (4 : Int32)), .val (.int (2 : Int32))] []))) (fun tQ kQ => XS.icmpYes P.here hx rfl (pc0 := 2) (pc' := 9) rfl (hb hby dmnl_2) rfl (XT.ii_gt_t (by decide)) (by decide) (by decide) kQ) ?_
  show OwnDone p e below _ (T.setTop (mkF m 9 #[.val (.int (4 : Int32)), .val (.int (2 : Int32))] []))
  refine OwnDone.go (A := (T.setTop (mkF m 10 #[.val (.int (4 : Int32)), .val (.int (2 : Int32))] [(.int (2 : Int32))]))) (fun tQ kQ => ?_) ?_
  · refine XS.iloadN P.here hx rfl (hb hby dmnl_9) rfl ?_
    show Steps p.tables e below (T.setTop (mkF m 10 #[.val (.int (4 : Int32)), .val (.int (2 : Int32))] [(.int (2 : Int32))])) _
    exact kQ
  show OwnDone p e below _ (T.setTop (mkF m 10 #[.val (.int (4 : Int32)), .val (.int (2 : Int32))] [(.int (2 : Int32))]))
  refine own_retI C P dmnl_10 (by decide) (by decide) ⟨rfl, rfl⟩
theorem dins_0 : decode jdk_2529_method_15_code 0 = .ok (.iload_n 1, 1) := by decide +kernel
theorem dins_1 : decode jdk_2529_method_15_code 1 = .ok (.istore 4, 2) := by decide +kernel
theorem dins_3 : decode jdk_2529_method_15_code 3 = .ok (.iinc 4 1, 3) := by decide +kernel
theorem dins_6 : decode jdk_2529_method_15_code 6 = .ok (.iload 4, 2) := by decide +kernel
theorem dins_8 : decode jdk_2529_method_15_code 8 = .ok (.iload_n 2, 1) := by decide +kernel
theorem dins_9 : decode jdk_2529_method_15_code 9 = .ok (.if_icmp .ge 60, 3) := by decide +kernel
theorem dins_12 : decode jdk_2529_method_15_code 12 = .ok (.aload_n 0, 1) := by decide +kernel
theorem dins_13 : decode jdk_2529_method_15_code 13 = .ok (.iload 4, 2) := by decide +kernel
theorem dins_15 : decode jdk_2529_method_15_code 15 = .ok (.dup, 1) := by decide +kernel
theorem dins_16 : decode jdk_2529_method_15_code 16 = .ok (.istore_n 3, 1) := by decide +kernel
theorem dins_17 : decode jdk_2529_method_15_code 17 = .ok (.laload, 1) := by decide +kernel
theorem dins_18 : decode jdk_2529_method_15_code 18 = .ok (.lstore 5, 2) := by decide +kernel
theorem dins_20 : decode jdk_2529_method_15_code 20 = .ok (.lload 5, 2) := by decide +kernel
theorem dins_22 : decode jdk_2529_method_15_code 22 = .ok (.aload_n 0, 1) := by decide +kernel
theorem dins_23 : decode jdk_2529_method_15_code 23 = .ok (.iload_n 3, 1) := by decide +kernel
theorem dins_24 : decode jdk_2529_method_15_code 24 = .ok (.iconst 1, 1) := by decide +kernel
theorem dins_25 : decode jdk_2529_method_15_code 25 = .ok (.isub, 1) := by decide +kernel
theorem dins_26 : decode jdk_2529_method_15_code 26 = .ok (.laload, 1) := by decide +kernel
theorem dins_27 : decode jdk_2529_method_15_code 27 = .ok (.lcmp, 1) := by decide +kernel
theorem dins_28 : decode jdk_2529_method_15_code 28 = .ok (.ifCond .ge 38, 3) := by decide +kernel
theorem dins_31 : decode jdk_2529_method_15_code 31 = .ok (.iinc 3 (-1), 3) := by decide +kernel
theorem dins_34 : decode jdk_2529_method_15_code 34 = .ok (.iload_n 3, 1) := by decide +kernel
theorem dins_35 : decode jdk_2529_method_15_code 35 = .ok (.iload_n 1, 1) := by decide +kernel
theorem dins_36 : decode jdk_2529_method_15_code 36 = .ok (.if_icmp .lt 23, 3) := by decide +kernel
theorem dins_39 : decode jdk_2529_method_15_code 39 = .ok (.lload 5, 2) := by decide +kernel
theorem dins_41 : decode jdk_2529_method_15_code 41 = .ok (.aload_n 0, 1) := by decide +kernel
theorem dins_42 : decode jdk_2529_method_15_code 42 = .ok (.iload_n 3, 1) := by decide +kernel
theorem dins_43 : decode jdk_2529_method_15_code 43 = .ok (.laload, 1) := by decide +kernel
theorem dins_44 : decode jdk_2529_method_15_code 44 = .ok (.lcmp, 1) := by decide +kernel
theorem dins_45 : decode jdk_2529_method_15_code 45 = .ok (.ifCond .ge 14, 3) := by decide +kernel
theorem dins_48 : decode jdk_2529_method_15_code 48 = .ok (.aload_n 0, 1) := by decide +kernel
theorem dins_49 : decode jdk_2529_method_15_code 49 = .ok (.iload_n 3, 1) := by decide +kernel
theorem dins_50 : decode jdk_2529_method_15_code 50 = .ok (.iconst 1, 1) := by decide +kernel
theorem dins_51 : decode jdk_2529_method_15_code 51 = .ok (.iadd, 1) := by decide +kernel
theorem dins_52 : decode jdk_2529_method_15_code 52 = .ok (.aload_n 0, 1) := by decide +kernel
theorem dins_53 : decode jdk_2529_method_15_code 53 = .ok (.iload_n 3, 1) := by decide +kernel
theorem dins_54 : decode jdk_2529_method_15_code 54 = .ok (.laload, 1) := by decide +kernel
theorem dins_55 : decode jdk_2529_method_15_code 55 = .ok (.lastore, 1) := by decide +kernel
theorem dins_56 : decode jdk_2529_method_15_code 56 = .ok (.goto (-25), 3) := by decide +kernel
theorem dins_59 : decode jdk_2529_method_15_code 59 = .ok (.aload_n 0, 1) := by decide +kernel
theorem dins_60 : decode jdk_2529_method_15_code 60 = .ok (.iload_n 3, 1) := by decide +kernel
theorem dins_61 : decode jdk_2529_method_15_code 61 = .ok (.iconst 1, 1) := by decide +kernel
theorem dins_62 : decode jdk_2529_method_15_code 62 = .ok (.iadd, 1) := by decide +kernel
theorem dins_63 : decode jdk_2529_method_15_code 63 = .ok (.lload 5, 2) := by decide +kernel
theorem dins_65 : decode jdk_2529_method_15_code 65 = .ok (.lastore, 1) := by decide +kernel
theorem dins_66 : decode jdk_2529_method_15_code 66 = .ok (.goto (-63), 3) := by decide +kernel
theorem dins_69 : decode jdk_2529_method_15_code 69 = .ok (.return_, 1) := by decide +kernel
theorem pnins : plainName "java/util/DualPivotQuicksort" = true := by first | (simp [plainName, overriddenIn]; done) | decide +kernel
theorem efins (m : MethodId) (ao : Addr)  : entryFrame m #[(.ref ao), (.int (0 : Int32)), (.int (2 : Int32))] 7 = mkF m 0 #[.val (.ref ao), .val (.int (0 : Int32)), .val (.int (2 : Int32)), .unset, .unset, .unset, .unset] [] := by first | (simp [entryFrame, mkF, argsToLocals, Value.category]; done) | rfl
set_option maxRecDepth 65536 in
set_option maxHeartbeats 40000000 in
theorem rmins (l : Launch) (Z : State) (a0 : Array Value) (hw : ∀ d ∈ tables_1, d.before a0 Z = true) (ao : Addr) (k : ClassId) (x0 x1 : Int64) (h0 : Heap) (hE : Ext Z.heap h0) (g_ao : Z.heap.size ≤ ao) (Ya : OwnAry Z h0 ao k .long [(.long x0), (.long x1)]) :
    OwnMeets l (⟨"java/util/DualPivotQuicksort", "insertionSort", "([JII)V"⟩ : MethodName) jdk_2529_method_15_code 7 none ({ frames := 0, cells := 0, slots := 0, locals := 0 } : Room) Z [ao] #[(.ref ao), (.int (0 : Int32)), (.int (2 : Int32))] h0 (fun v h => v = none ∧ ∃ y0 y1 : Int64, OwnAry Z h ao k .long [(.long y0), (.long y1)] ∧ (x1 < x0 ∧ y0 = x1 ∧ y1 = x0 ∨ ¬ x1 < x0 ∧ y0 = x0 ∧ y1 = x1)) := by
  refine OwnMeets.of (plainFor_of_name pnins) hE (allS g_ao all0) ?_
  intro p e s m below meth c T C P
  have hx := C.1
  have hby := C.2.2.2.2.1
  rw [show entryFrame m #[(.ref ao), (.int (0 : Int32)), (.int (2 : Int32))] 7 = _ from efins m ao]
  show OwnDone p e below _ (T.setTop (mkF m 0 #[.val (.ref ao), .val (.int (0 : Int32)), .val (.int (2 : Int32)), .unset, .unset, .unset, .unset] []))
  refine OwnDone.go (A := (T.setTop (mkF m 9 #[.val (.ref ao), .val (.int (0 : Int32)), .val (.int (2 : Int32)), .unset, .val (.int (1 : Int32)), .unset, .unset] [(.int (2 : Int32)), (.int (1 : Int32))]))) (fun tQ kQ => ?_) ?_
  · refine XS.iloadN P.here hx rfl (hb hby dins_0) rfl ?_
    show Steps p.tables e below (T.setTop (mkF m 1 #[.val (.ref ao), .val (.int (0 : Int32)), .val (.int (2 : Int32)), .unset, .unset, .unset, .unset] [(.int (0 : Int32))])) _
    refine XS.istore P.here hx rfl (hb hby dins_1) rfl (l' := #[.val (.ref ao), .val (.int (0 : Int32)), .val (.int (2 : Int32)), .unset, .val (.int (0 : Int32)), .unset, .unset]) rfl ?_
    show Steps p.tables e below (T.setTop (mkF m 3 #[.val (.ref ao), .val (.int (0 : Int32)), .val (.int (2 : Int32)), .unset, .val (.int (0 : Int32)), .unset, .unset] [])) _
    refine XS.iinc P.here hx rfl (hb hby dins_3) rfl (l' := #[.val (.ref ao), .val (.int (0 : Int32)), .val (.int (2 : Int32)), .unset, .val (.int (1 : Int32)), .unset, .unset]) rfl ?_
    show Steps p.tables e below (T.setTop (mkF m 6 #[.val (.ref ao), .val (.int (0 : Int32)), .val (.int (2 : Int32)), .unset, .val (.int (1 : Int32)), .unset, .unset] [])) _
    refine XS.iload P.here hx rfl (hb hby dins_6) rfl ?_
    show Steps p.tables e below (T.setTop (mkF m 8 #[.val (.ref ao), .val (.int (0 : Int32)), .val (.int (2 : Int32)), .unset, .val (.int (1 : Int32)), .unset, .unset] [(.int (1 : Int32))])) _
    refine XS.iloadN P.here hx rfl (hb hby dins_8) rfl ?_
    show Steps p.tables e below (T.setTop (mkF m 9 #[.val (.ref ao), .val (.int (0 : Int32)), .val (.int (2 : Int32)), .unset, .val (.int (1 : Int32)), .unset, .unset] [(.int (2 : Int32)), (.int (1 : Int32))])) _
    exact kQ
  show OwnDone p e below _ (T.setTop (mkF m 9 #[.val (.ref ao), .val (.int (0 : Int32)), .val (.int (2 : Int32)), .unset, .val (.int (1 : Int32)), .unset, .unset] [(.int (2 : Int32)), (.int (1 : Int32))]))
  refine OwnDone.go (A := (T.setTop (mkF m 12 #[.val (.ref ao), .val (.int (0 : Int32)), .val (.int (2 : Int32)), .unset, .val (.int (1 : Int32)), .unset, .unset] []))) (fun tQ kQ => XS.icmpNo P.here hx rfl (hb hby dins_9) rfl (XT.ii_ge_f (by decide)) kQ) ?_
  show OwnDone p e below _ (T.setTop (mkF m 12 #[.val (.ref ao), .val (.int (0 : Int32)), .val (.int (2 : Int32)), .unset, .val (.int (1 : Int32)), .unset, .unset] []))
  refine OwnDone.go (A := (T.setTop (mkF m 28 #[.val (.ref ao), .val (.int (0 : Int32)), .val (.int (2 : Int32)), .val (.int (1 : Int32)), .val (.int (1 : Int32)), .val (.long x1), .second] [(.int (XT.cmpL x1 x0))]))) (fun tQ kQ => ?_) ?_
  · refine XS.aloadN P.here hx rfl (hb hby dins_12) rfl rfl ?_
    show Steps p.tables e below (T.setTop (mkF m 13 #[.val (.ref ao), .val (.int (0 : Int32)), .val (.int (2 : Int32)), .unset, .val (.int (1 : Int32)), .unset, .unset] [(.ref ao)])) _
    refine XS.iload P.here hx rfl (hb hby dins_13) rfl ?_
    show Steps p.tables e below (T.setTop (mkF m 15 #[.val (.ref ao), .val (.int (0 : Int32)), .val (.int (2 : Int32)), .unset, .val (.int (1 : Int32)), .unset, .unset] [(.int (1 : Int32)), (.ref ao)])) _
    refine XS.dup P.here hx rfl (hb hby dins_15) rfl rfl ?_
    show Steps p.tables e below (T.setTop (mkF m 16 #[.val (.ref ao), .val (.int (0 : Int32)), .val (.int (2 : Int32)), .unset, .val (.int (1 : Int32)), .unset, .unset] [(.int (1 : Int32)), (.int (1 : Int32)), (.ref ao)])) _
    refine XS.istoreN P.here hx rfl (hb hby dins_16) rfl (l' := #[.val (.ref ao), .val (.int (0 : Int32)), .val (.int (2 : Int32)), .val (.int (1 : Int32)), .val (.int (1 : Int32)), .unset, .unset]) rfl ?_
    show Steps p.tables e below (T.setTop (mkF m 17 #[.val (.ref ao), .val (.int (0 : Int32)), .val (.int (2 : Int32)), .val (.int (1 : Int32)), .val (.int (1 : Int32)), .unset, .unset] [(.int (1 : Int32)), (.ref ao)])) _
    refine own_laload C P Ya (by decide) rfl dins_17 ?_
    show Steps p.tables e below (T.setTop (mkF m 18 #[.val (.ref ao), .val (.int (0 : Int32)), .val (.int (2 : Int32)), .val (.int (1 : Int32)), .val (.int (1 : Int32)), .unset, .unset] [(.long x1)])) _
    refine XT.lstore P.here hx rfl (hb hby dins_18) rfl (l' := #[.val (.ref ao), .val (.int (0 : Int32)), .val (.int (2 : Int32)), .val (.int (1 : Int32)), .val (.int (1 : Int32)), .val (.long x1), .second]) rfl ?_
    show Steps p.tables e below (T.setTop (mkF m 20 #[.val (.ref ao), .val (.int (0 : Int32)), .val (.int (2 : Int32)), .val (.int (1 : Int32)), .val (.int (1 : Int32)), .val (.long x1), .second] [])) _
    refine XT.lload P.here hx rfl (hb hby dins_20) rfl ?_
    show Steps p.tables e below (T.setTop (mkF m 22 #[.val (.ref ao), .val (.int (0 : Int32)), .val (.int (2 : Int32)), .val (.int (1 : Int32)), .val (.int (1 : Int32)), .val (.long x1), .second] [(.long x1)])) _
    refine XS.aloadN P.here hx rfl (hb hby dins_22) rfl rfl ?_
    show Steps p.tables e below (T.setTop (mkF m 23 #[.val (.ref ao), .val (.int (0 : Int32)), .val (.int (2 : Int32)), .val (.int (1 : Int32)), .val (.int (1 : Int32)), .val (.long x1), .second] [(.ref ao), (.long x1)])) _
    refine XS.iloadN P.here hx rfl (hb hby dins_23) rfl ?_
    show Steps p.tables e below (T.setTop (mkF m 24 #[.val (.ref ao), .val (.int (0 : Int32)), .val (.int (2 : Int32)), .val (.int (1 : Int32)), .val (.int (1 : Int32)), .val (.long x1), .second] [(.int (1 : Int32)), (.ref ao), (.long x1)])) _
    refine XS.iconst P.here hx rfl (hb hby dins_24) ?_
    show Steps p.tables e below (T.setTop (mkF m 25 #[.val (.ref ao), .val (.int (0 : Int32)), .val (.int (2 : Int32)), .val (.int (1 : Int32)), .val (.int (1 : Int32)), .val (.long x1), .second] [(.int (1 : Int32)), (.int (1 : Int32)), (.ref ao), (.long x1)])) _
    refine XS.isub P.here hx rfl (hb hby dins_25) rfl ?_
    show Steps p.tables e below (T.setTop (mkF m 26 #[.val (.ref ao), .val (.int (0 : Int32)), .val (.int (2 : Int32)), .val (.int (1 : Int32)), .val (.int (1 : Int32)), .val (.long x1), .second] [(.int (0 : Int32)), (.ref ao), (.long x1)])) _
    refine own_laload C P Ya (by decide) rfl dins_26 ?_
    show Steps p.tables e below (T.setTop (mkF m 27 #[.val (.ref ao), .val (.int (0 : Int32)), .val (.int (2 : Int32)), .val (.int (1 : Int32)), .val (.int (1 : Int32)), .val (.long x1), .second] [(.long x0), (.long x1)])) _
    refine XT.lcmp P.here hx rfl (hb hby dins_27) rfl ?_
    show Steps p.tables e below (T.setTop (mkF m 28 #[.val (.ref ao), .val (.int (0 : Int32)), .val (.int (2 : Int32)), .val (.int (1 : Int32)), .val (.int (1 : Int32)), .val (.long x1), .second] [(.int (XT.cmpL x1 x0))])) _
    exact kQ
  show OwnDone p e below _ (T.setTop (mkF m 28 #[.val (.ref ao), .val (.int (0 : Int32)), .val (.int (2 : Int32)), .val (.int (1 : Int32)), .val (.int (1 : Int32)), .val (.long x1), .second] [(.int (XT.cmpL x1 x0))]))
  by_cases hc28 : x1 < x0
  · refine OwnDone.go (A := (T.setTop (mkF m 31 #[.val (.ref ao), .val (.int (0 : Int32)), .val (.int (2 : Int32)), .val (.int (1 : Int32)), .val (.int (1 : Int32)), .val (.long x1), .second] []))) (fun tQ kQ => XS.ifNo P.here hx rfl (hb hby dins_28) rfl (XT.ll_ge_f hc28) kQ) ?_
    show OwnDone p e below _ (T.setTop (mkF m 31 #[.val (.ref ao), .val (.int (0 : Int32)), .val (.int (2 : Int32)), .val (.int (1 : Int32)), .val (.int (1 : Int32)), .val (.long x1), .second] []))
    refine OwnDone.go (A := (T.setTop (mkF m 36 #[.val (.ref ao), .val (.int (0 : Int32)), .val (.int (2 : Int32)), .val (.int (0 : Int32)), .val (.int (1 : Int32)), .val (.long x1), .second] [(.int (0 : Int32)), (.int (0 : Int32))]))) (fun tQ kQ => ?_) ?_
    · refine XS.iinc P.here hx rfl (hb hby dins_31) rfl (l' := #[.val (.ref ao), .val (.int (0 : Int32)), .val (.int (2 : Int32)), .val (.int (0 : Int32)), .val (.int (1 : Int32)), .val (.long x1), .second]) rfl ?_
      show Steps p.tables e below (T.setTop (mkF m 34 #[.val (.ref ao), .val (.int (0 : Int32)), .val (.int (2 : Int32)), .val (.int (0 : Int32)), .val (.int (1 : Int32)), .val (.long x1), .second] [])) _
      refine XS.iloadN P.here hx rfl (hb hby dins_34) rfl ?_
      show Steps p.tables e below (T.setTop (mkF m 35 #[.val (.ref ao), .val (.int (0 : Int32)), .val (.int (2 : Int32)), .val (.int (0 : Int32)), .val (.int (1 : Int32)), .val (.long x1), .second] [(.int (0 : Int32))])) _
      refine XS.iloadN P.here hx rfl (hb hby dins_35) rfl ?_
      show Steps p.tables e below (T.setTop (mkF m 36 #[.val (.ref ao), .val (.int (0 : Int32)), .val (.int (2 : Int32)), .val (.int (0 : Int32)), .val (.int (1 : Int32)), .val (.long x1), .second] [(.int (0 : Int32)), (.int (0 : Int32))])) _
      exact kQ
    show OwnDone p e below _ (T.setTop (mkF m 36 #[.val (.ref ao), .val (.int (0 : Int32)), .val (.int (2 : Int32)), .val (.int (0 : Int32)), .val (.int (1 : Int32)), .val (.long x1), .second] [(.int (0 : Int32)), (.int (0 : Int32))]))
    refine OwnDone.go (A := (T.setTop (mkF m 39 #[.val (.ref ao), .val (.int (0 : Int32)), .val (.int (2 : Int32)), .val (.int (0 : Int32)), .val (.int (1 : Int32)), .val (.long x1), .second] []))) (fun tQ kQ => XS.icmpNo P.here hx rfl (hb hby dins_36) rfl (XT.ii_lt_f (by decide)) kQ) ?_
    show OwnDone p e below _ (T.setTop (mkF m 39 #[.val (.ref ao), .val (.int (0 : Int32)), .val (.int (2 : Int32)), .val (.int (0 : Int32)), .val (.int (1 : Int32)), .val (.long x1), .second] []))
    refine OwnDone.go (A := (T.setTop (mkF m 45 #[.val (.ref ao), .val (.int (0 : Int32)), .val (.int (2 : Int32)), .val (.int (0 : Int32)), .val (.int (1 : Int32)), .val (.long x1), .second] [(.int (XT.cmpL x1 x0))]))) (fun tQ kQ => ?_) ?_
    · refine XT.lload P.here hx rfl (hb hby dins_39) rfl ?_
      show Steps p.tables e below (T.setTop (mkF m 41 #[.val (.ref ao), .val (.int (0 : Int32)), .val (.int (2 : Int32)), .val (.int (0 : Int32)), .val (.int (1 : Int32)), .val (.long x1), .second] [(.long x1)])) _
      refine XS.aloadN P.here hx rfl (hb hby dins_41) rfl rfl ?_
      show Steps p.tables e below (T.setTop (mkF m 42 #[.val (.ref ao), .val (.int (0 : Int32)), .val (.int (2 : Int32)), .val (.int (0 : Int32)), .val (.int (1 : Int32)), .val (.long x1), .second] [(.ref ao), (.long x1)])) _
      refine XS.iloadN P.here hx rfl (hb hby dins_42) rfl ?_
      show Steps p.tables e below (T.setTop (mkF m 43 #[.val (.ref ao), .val (.int (0 : Int32)), .val (.int (2 : Int32)), .val (.int (0 : Int32)), .val (.int (1 : Int32)), .val (.long x1), .second] [(.int (0 : Int32)), (.ref ao), (.long x1)])) _
      refine own_laload C P Ya (by decide) rfl dins_43 ?_
      show Steps p.tables e below (T.setTop (mkF m 44 #[.val (.ref ao), .val (.int (0 : Int32)), .val (.int (2 : Int32)), .val (.int (0 : Int32)), .val (.int (1 : Int32)), .val (.long x1), .second] [(.long x0), (.long x1)])) _
      refine XT.lcmp P.here hx rfl (hb hby dins_44) rfl ?_
      show Steps p.tables e below (T.setTop (mkF m 45 #[.val (.ref ao), .val (.int (0 : Int32)), .val (.int (2 : Int32)), .val (.int (0 : Int32)), .val (.int (1 : Int32)), .val (.long x1), .second] [(.int (XT.cmpL x1 x0))])) _
      exact kQ
    show OwnDone p e below _ (T.setTop (mkF m 45 #[.val (.ref ao), .val (.int (0 : Int32)), .val (.int (2 : Int32)), .val (.int (0 : Int32)), .val (.int (1 : Int32)), .val (.long x1), .second] [(.int (XT.cmpL x1 x0))]))
    refine OwnDone.go (A := (T.setTop (mkF m 48 #[.val (.ref ao), .val (.int (0 : Int32)), .val (.int (2 : Int32)), .val (.int (0 : Int32)), .val (.int (1 : Int32)), .val (.long x1), .second] []))) (fun tQ kQ => XS.ifNo P.here hx rfl (hb hby dins_45) rfl (XT.ll_ge_f hc28) kQ) ?_
    show OwnDone p e below _ (T.setTop (mkF m 48 #[.val (.ref ao), .val (.int (0 : Int32)), .val (.int (2 : Int32)), .val (.int (0 : Int32)), .val (.int (1 : Int32)), .val (.long x1), .second] []))
    refine OwnDone.go (A := (T.setTop (mkF m 55 #[.val (.ref ao), .val (.int (0 : Int32)), .val (.int (2 : Int32)), .val (.int (0 : Int32)), .val (.int (1 : Int32)), .val (.long x1), .second] [(.long x0), (.int (1 : Int32)), (.ref ao)]))) (fun tQ kQ => ?_) ?_
    · refine XS.aloadN P.here hx rfl (hb hby dins_48) rfl rfl ?_
      show Steps p.tables e below (T.setTop (mkF m 49 #[.val (.ref ao), .val (.int (0 : Int32)), .val (.int (2 : Int32)), .val (.int (0 : Int32)), .val (.int (1 : Int32)), .val (.long x1), .second] [(.ref ao)])) _
      refine XS.iloadN P.here hx rfl (hb hby dins_49) rfl ?_
      show Steps p.tables e below (T.setTop (mkF m 50 #[.val (.ref ao), .val (.int (0 : Int32)), .val (.int (2 : Int32)), .val (.int (0 : Int32)), .val (.int (1 : Int32)), .val (.long x1), .second] [(.int (0 : Int32)), (.ref ao)])) _
      refine XS.iconst P.here hx rfl (hb hby dins_50) ?_
      show Steps p.tables e below (T.setTop (mkF m 51 #[.val (.ref ao), .val (.int (0 : Int32)), .val (.int (2 : Int32)), .val (.int (0 : Int32)), .val (.int (1 : Int32)), .val (.long x1), .second] [(.int (1 : Int32)), (.int (0 : Int32)), (.ref ao)])) _
      refine XS.iadd P.here hx rfl (hb hby dins_51) rfl ?_
      show Steps p.tables e below (T.setTop (mkF m 52 #[.val (.ref ao), .val (.int (0 : Int32)), .val (.int (2 : Int32)), .val (.int (0 : Int32)), .val (.int (1 : Int32)), .val (.long x1), .second] [(.int (1 : Int32)), (.ref ao)])) _
      refine XS.aloadN P.here hx rfl (hb hby dins_52) rfl rfl ?_
      show Steps p.tables e below (T.setTop (mkF m 53 #[.val (.ref ao), .val (.int (0 : Int32)), .val (.int (2 : Int32)), .val (.int (0 : Int32)), .val (.int (1 : Int32)), .val (.long x1), .second] [(.ref ao), (.int (1 : Int32)), (.ref ao)])) _
      refine XS.iloadN P.here hx rfl (hb hby dins_53) rfl ?_
      show Steps p.tables e below (T.setTop (mkF m 54 #[.val (.ref ao), .val (.int (0 : Int32)), .val (.int (2 : Int32)), .val (.int (0 : Int32)), .val (.int (1 : Int32)), .val (.long x1), .second] [(.int (0 : Int32)), (.ref ao), (.int (1 : Int32)), (.ref ao)])) _
      refine own_laload C P Ya (by decide) rfl dins_54 ?_
      show Steps p.tables e below (T.setTop (mkF m 55 #[.val (.ref ao), .val (.int (0 : Int32)), .val (.int (2 : Int32)), .val (.int (0 : Int32)), .val (.int (1 : Int32)), .val (.long x1), .second] [(.long x0), (.int (1 : Int32)), (.ref ao)])) _
      exact kQ
    show OwnDone p e below _ (T.setTop (mkF m 55 #[.val (.ref ao), .val (.int (0 : Int32)), .val (.int (2 : Int32)), .val (.int (0 : Int32)), .val (.int (1 : Int32)), .val (.long x1), .second] [(.long x0), (.int (1 : Int32)), (.ref ao)]))
    refine own_lastore C P Ya (by decide) (show ((1 : Int32) : Int32).toNatClampNeg < 2 from by decide) (Or.inl (List.mem_of_getElem? (i := 0) rfl)) dins_55 (vs' := [(.long x0), (.long x0)]) rfl (fun T1 h1 P1 K1 Y1 => ?_)
    show OwnDone p e below _ (T1.setTop (mkF m 56 #[.val (.ref ao), .val (.int (0 : Int32)), .val (.int (2 : Int32)), .val (.int (0 : Int32)), .val (.int (1 : Int32)), .val (.long x1), .second] []))
    refine OwnDone.go (A := (T1.setTop (mkF m 36 #[.val (.ref ao), .val (.int (0 : Int32)), .val (.int (2 : Int32)), .val (.int (-1 : Int32)), .val (.int (1 : Int32)), .val (.long x1), .second] [(.int (0 : Int32)), (.int (-1 : Int32))]))) (fun tQ kQ => ?_) ?_
    · refine XS.goto P1.here hx rfl (pc0 := 56) (pc' := 31) rfl (hb hby dins_56) (by decide) (by decide) ?_
      show Steps p.tables e below (T1.setTop (mkF m 31 #[.val (.ref ao), .val (.int (0 : Int32)), .val (.int (2 : Int32)), .val (.int (0 : Int32)), .val (.int (1 : Int32)), .val (.long x1), .second] [])) _
      refine XS.iinc P1.here hx rfl (hb hby dins_31) rfl (l' := #[.val (.ref ao), .val (.int (0 : Int32)), .val (.int (2 : Int32)), .val (.int (-1 : Int32)), .val (.int (1 : Int32)), .val (.long x1), .second]) rfl ?_
      show Steps p.tables e below (T1.setTop (mkF m 34 #[.val (.ref ao), .val (.int (0 : Int32)), .val (.int (2 : Int32)), .val (.int (-1 : Int32)), .val (.int (1 : Int32)), .val (.long x1), .second] [])) _
      refine XS.iloadN P1.here hx rfl (hb hby dins_34) rfl ?_
      show Steps p.tables e below (T1.setTop (mkF m 35 #[.val (.ref ao), .val (.int (0 : Int32)), .val (.int (2 : Int32)), .val (.int (-1 : Int32)), .val (.int (1 : Int32)), .val (.long x1), .second] [(.int (-1 : Int32))])) _
      refine XS.iloadN P1.here hx rfl (hb hby dins_35) rfl ?_
      show Steps p.tables e below (T1.setTop (mkF m 36 #[.val (.ref ao), .val (.int (0 : Int32)), .val (.int (2 : Int32)), .val (.int (-1 : Int32)), .val (.int (1 : Int32)), .val (.long x1), .second] [(.int (0 : Int32)), (.int (-1 : Int32))])) _
      exact kQ
    show OwnDone p e below _ (T1.setTop (mkF m 36 #[.val (.ref ao), .val (.int (0 : Int32)), .val (.int (2 : Int32)), .val (.int (-1 : Int32)), .val (.int (1 : Int32)), .val (.long x1), .second] [(.int (0 : Int32)), (.int (-1 : Int32))]))
    refine OwnDone.go (A := (T1.setTop (mkF m 59 #[.val (.ref ao), .val (.int (0 : Int32)), .val (.int (2 : Int32)), .val (.int (-1 : Int32)), .val (.int (1 : Int32)), .val (.long x1), .second] []))) (fun tQ kQ => XS.icmpYes P1.here hx rfl (pc0 := 36) (pc' := 59) rfl (hb hby dins_36) rfl (XT.ii_lt_t (by decide)) (by decide) (by decide) kQ) ?_
    show OwnDone p e below _ (T1.setTop (mkF m 59 #[.val (.ref ao), .val (.int (0 : Int32)), .val (.int (2 : Int32)), .val (.int (-1 : Int32)), .val (.int (1 : Int32)), .val (.long x1), .second] []))
    refine OwnDone.go (A := (T1.setTop (mkF m 65 #[.val (.ref ao), .val (.int (0 : Int32)), .val (.int (2 : Int32)), .val (.int (-1 : Int32)), .val (.int (1 : Int32)), .val (.long x1), .second] [(.long x1), (.int (0 : Int32)), (.ref ao)]))) (fun tQ kQ => ?_) ?_
    · refine XS.aloadN P1.here hx rfl (hb hby dins_59) rfl rfl ?_
      show Steps p.tables e below (T1.setTop (mkF m 60 #[.val (.ref ao), .val (.int (0 : Int32)), .val (.int (2 : Int32)), .val (.int (-1 : Int32)), .val (.int (1 : Int32)), .val (.long x1), .second] [(.ref ao)])) _
      refine XS.iloadN P1.here hx rfl (hb hby dins_60) rfl ?_
      show Steps p.tables e below (T1.setTop (mkF m 61 #[.val (.ref ao), .val (.int (0 : Int32)), .val (.int (2 : Int32)), .val (.int (-1 : Int32)), .val (.int (1 : Int32)), .val (.long x1), .second] [(.int (-1 : Int32)), (.ref ao)])) _
      refine XS.iconst P1.here hx rfl (hb hby dins_61) ?_
      show Steps p.tables e below (T1.setTop (mkF m 62 #[.val (.ref ao), .val (.int (0 : Int32)), .val (.int (2 : Int32)), .val (.int (-1 : Int32)), .val (.int (1 : Int32)), .val (.long x1), .second] [(.int (1 : Int32)), (.int (-1 : Int32)), (.ref ao)])) _
      refine XS.iadd P1.here hx rfl (hb hby dins_62) rfl ?_
      show Steps p.tables e below (T1.setTop (mkF m 63 #[.val (.ref ao), .val (.int (0 : Int32)), .val (.int (2 : Int32)), .val (.int (-1 : Int32)), .val (.int (1 : Int32)), .val (.long x1), .second] [(.int (0 : Int32)), (.ref ao)])) _
      refine XT.lload P1.here hx rfl (hb hby dins_63) rfl ?_
      show Steps p.tables e below (T1.setTop (mkF m 65 #[.val (.ref ao), .val (.int (0 : Int32)), .val (.int (2 : Int32)), .val (.int (-1 : Int32)), .val (.int (1 : Int32)), .val (.long x1), .second] [(.long x1), (.int (0 : Int32)), (.ref ao)])) _
      exact kQ
    show OwnDone p e below _ (T1.setTop (mkF m 65 #[.val (.ref ao), .val (.int (0 : Int32)), .val (.int (2 : Int32)), .val (.int (-1 : Int32)), .val (.int (1 : Int32)), .val (.long x1), .second] [(.long x1), (.int (0 : Int32)), (.ref ao)]))
    refine own_lastore C P1 Y1 (by decide) (show ((0 : Int32) : Int32).toNatClampNeg < 2 from by decide) (Or.inl (List.mem_of_getElem? (i := 0) rfl)) dins_65 (vs' := [(.long x1), (.long x0)]) rfl (fun T2 h2 P2 K2 Y2 => ?_)
    show OwnDone p e below _ (T2.setTop (mkF m 66 #[.val (.ref ao), .val (.int (0 : Int32)), .val (.int (2 : Int32)), .val (.int (-1 : Int32)), .val (.int (1 : Int32)), .val (.long x1), .second] []))
    refine OwnDone.go (A := (T2.setTop (mkF m 9 #[.val (.ref ao), .val (.int (0 : Int32)), .val (.int (2 : Int32)), .val (.int (-1 : Int32)), .val (.int (2 : Int32)), .val (.long x1), .second] [(.int (2 : Int32)), (.int (2 : Int32))]))) (fun tQ kQ => ?_) ?_
    · refine XS.goto P2.here hx rfl (pc0 := 66) (pc' := 3) rfl (hb hby dins_66) (by decide) (by decide) ?_
      show Steps p.tables e below (T2.setTop (mkF m 3 #[.val (.ref ao), .val (.int (0 : Int32)), .val (.int (2 : Int32)), .val (.int (-1 : Int32)), .val (.int (1 : Int32)), .val (.long x1), .second] [])) _
      refine XS.iinc P2.here hx rfl (hb hby dins_3) rfl (l' := #[.val (.ref ao), .val (.int (0 : Int32)), .val (.int (2 : Int32)), .val (.int (-1 : Int32)), .val (.int (2 : Int32)), .val (.long x1), .second]) rfl ?_
      show Steps p.tables e below (T2.setTop (mkF m 6 #[.val (.ref ao), .val (.int (0 : Int32)), .val (.int (2 : Int32)), .val (.int (-1 : Int32)), .val (.int (2 : Int32)), .val (.long x1), .second] [])) _
      refine XS.iload P2.here hx rfl (hb hby dins_6) rfl ?_
      show Steps p.tables e below (T2.setTop (mkF m 8 #[.val (.ref ao), .val (.int (0 : Int32)), .val (.int (2 : Int32)), .val (.int (-1 : Int32)), .val (.int (2 : Int32)), .val (.long x1), .second] [(.int (2 : Int32))])) _
      refine XS.iloadN P2.here hx rfl (hb hby dins_8) rfl ?_
      show Steps p.tables e below (T2.setTop (mkF m 9 #[.val (.ref ao), .val (.int (0 : Int32)), .val (.int (2 : Int32)), .val (.int (-1 : Int32)), .val (.int (2 : Int32)), .val (.long x1), .second] [(.int (2 : Int32)), (.int (2 : Int32))])) _
      exact kQ
    show OwnDone p e below _ (T2.setTop (mkF m 9 #[.val (.ref ao), .val (.int (0 : Int32)), .val (.int (2 : Int32)), .val (.int (-1 : Int32)), .val (.int (2 : Int32)), .val (.long x1), .second] [(.int (2 : Int32)), (.int (2 : Int32))]))
    refine OwnDone.go (A := (T2.setTop (mkF m 69 #[.val (.ref ao), .val (.int (0 : Int32)), .val (.int (2 : Int32)), .val (.int (-1 : Int32)), .val (.int (2 : Int32)), .val (.long x1), .second] []))) (fun tQ kQ => XS.icmpYes P2.here hx rfl (pc0 := 9) (pc' := 69) rfl (hb hby dins_9) rfl (XT.ii_ge_t (by decide)) (by decide) (by decide) kQ) ?_
    show OwnDone p e below _ (T2.setTop (mkF m 69 #[.val (.ref ao), .val (.int (0 : Int32)), .val (.int (2 : Int32)), .val (.int (-1 : Int32)), .val (.int (2 : Int32)), .val (.long x1), .second] []))
    refine own_retV C P2 dins_69 (by decide) (by decide) ⟨rfl, _, _, Y2, Or.inl ⟨hc28, rfl, rfl⟩⟩
  · refine OwnDone.go (A := (T.setTop (mkF m 66 #[.val (.ref ao), .val (.int (0 : Int32)), .val (.int (2 : Int32)), .val (.int (1 : Int32)), .val (.int (1 : Int32)), .val (.long x1), .second] []))) (fun tQ kQ => XS.ifYes P.here hx rfl (pc0 := 28) (pc' := 66) rfl (hb hby dins_28) rfl (XT.ll_ge_t hc28) (by decide) (by decide) kQ) ?_
    show OwnDone p e below _ (T.setTop (mkF m 66 #[.val (.ref ao), .val (.int (0 : Int32)), .val (.int (2 : Int32)), .val (.int (1 : Int32)), .val (.int (1 : Int32)), .val (.long x1), .second] []))
    refine OwnDone.go (A := (T.setTop (mkF m 9 #[.val (.ref ao), .val (.int (0 : Int32)), .val (.int (2 : Int32)), .val (.int (1 : Int32)), .val (.int (2 : Int32)), .val (.long x1), .second] [(.int (2 : Int32)), (.int (2 : Int32))]))) (fun tQ kQ => ?_) ?_
    · refine XS.goto P.here hx rfl (pc0 := 66) (pc' := 3) rfl (hb hby dins_66) (by decide) (by decide) ?_
      show Steps p.tables e below (T.setTop (mkF m 3 #[.val (.ref ao), .val (.int (0 : Int32)), .val (.int (2 : Int32)), .val (.int (1 : Int32)), .val (.int (1 : Int32)), .val (.long x1), .second] [])) _
      refine XS.iinc P.here hx rfl (hb hby dins_3) rfl (l' := #[.val (.ref ao), .val (.int (0 : Int32)), .val (.int (2 : Int32)), .val (.int (1 : Int32)), .val (.int (2 : Int32)), .val (.long x1), .second]) rfl ?_
      show Steps p.tables e below (T.setTop (mkF m 6 #[.val (.ref ao), .val (.int (0 : Int32)), .val (.int (2 : Int32)), .val (.int (1 : Int32)), .val (.int (2 : Int32)), .val (.long x1), .second] [])) _
      refine XS.iload P.here hx rfl (hb hby dins_6) rfl ?_
      show Steps p.tables e below (T.setTop (mkF m 8 #[.val (.ref ao), .val (.int (0 : Int32)), .val (.int (2 : Int32)), .val (.int (1 : Int32)), .val (.int (2 : Int32)), .val (.long x1), .second] [(.int (2 : Int32))])) _
      refine XS.iloadN P.here hx rfl (hb hby dins_8) rfl ?_
      show Steps p.tables e below (T.setTop (mkF m 9 #[.val (.ref ao), .val (.int (0 : Int32)), .val (.int (2 : Int32)), .val (.int (1 : Int32)), .val (.int (2 : Int32)), .val (.long x1), .second] [(.int (2 : Int32)), (.int (2 : Int32))])) _
      exact kQ
    show OwnDone p e below _ (T.setTop (mkF m 9 #[.val (.ref ao), .val (.int (0 : Int32)), .val (.int (2 : Int32)), .val (.int (1 : Int32)), .val (.int (2 : Int32)), .val (.long x1), .second] [(.int (2 : Int32)), (.int (2 : Int32))]))
    refine OwnDone.go (A := (T.setTop (mkF m 69 #[.val (.ref ao), .val (.int (0 : Int32)), .val (.int (2 : Int32)), .val (.int (1 : Int32)), .val (.int (2 : Int32)), .val (.long x1), .second] []))) (fun tQ kQ => XS.icmpYes P.here hx rfl (pc0 := 9) (pc' := 69) rfl (hb hby dins_9) rfl (XT.ii_ge_t (by decide)) (by decide) (by decide) kQ) ?_
    show OwnDone p e below _ (T.setTop (mkF m 69 #[.val (.ref ao), .val (.int (0 : Int32)), .val (.int (2 : Int32)), .val (.int (1 : Int32)), .val (.int (2 : Int32)), .val (.long x1), .second] []))
    refine own_retV C P dins_69 (by decide) (by decide) ⟨rfl, _, _, Ya, Or.inr ⟨hc28, rfl, rfl⟩⟩
theorem dso2_0 : decode jdk_2529_method_13_code 0 = .ok (.iload 4, 2) := by decide +kernel
theorem dso2_2 : decode jdk_2529_method_13_code 2 = .ok (.iconst 1, 1) := by decide +kernel
theorem dso2_3 : decode jdk_2529_method_13_code 3 = .ok (.isub, 1) := by decide +kernel
theorem dso2_4 : decode jdk_2529_method_13_code 4 = .ok (.istore 5, 2) := by decide +kernel
theorem dso2_6 : decode jdk_2529_method_13_code 6 = .ok (.iload 4, 2) := by decide +kernel
theorem dso2_8 : decode jdk_2529_method_13_code 8 = .ok (.iload_n 3, 1) := by decide +kernel
theorem dso2_9 : decode jdk_2529_method_13_code 9 = .ok (.isub, 1) := by decide +kernel
theorem dso2_10 : decode jdk_2529_method_13_code 10 = .ok (.istore 6, 2) := by decide +kernel
theorem dso2_12 : decode jdk_2529_method_13_code 12 = .ok (.iload 6, 2) := by decide +kernel
theorem dso2_14 : decode jdk_2529_method_13_code 14 = .ok (.bipush 65, 2) := by decide +kernel
theorem dso2_16 : decode jdk_2529_method_13_code 16 = .ok (.iload_n 2, 1) := by decide +kernel
theorem dso2_17 : decode jdk_2529_method_13_code 17 = .ok (.iadd, 1) := by decide +kernel
theorem dso2_18 : decode jdk_2529_method_13_code 18 = .ok (.if_icmp .ge 28, 3) := by decide +kernel
theorem dso2_21 : decode jdk_2529_method_13_code 21 = .ok (.iload_n 2, 1) := by decide +kernel
theorem dso2_22 : decode jdk_2529_method_13_code 22 = .ok (.iconst 1, 1) := by decide +kernel
theorem dso2_23 : decode jdk_2529_method_13_code 23 = .ok (.iand, 1) := by decide +kernel
theorem dso2_24 : decode jdk_2529_method_13_code 24 = .ok (.ifCond .le 22, 3) := by decide +kernel
theorem dso2_46 : decode jdk_2529_method_13_code 46 = .ok (.iload 6, 2) := by decide +kernel
theorem dso2_48 : decode jdk_2529_method_13_code 48 = .ok (.bipush 44, 2) := by decide +kernel
theorem dso2_50 : decode jdk_2529_method_13_code 50 = .ok (.if_icmp .ge 11, 3) := by decide +kernel
theorem dso2_53 : decode jdk_2529_method_13_code 53 = .ok (.aload_n 1, 1) := by decide +kernel
theorem dso2_54 : decode jdk_2529_method_13_code 54 = .ok (.iload_n 3, 1) := by decide +kernel
theorem dso2_55 : decode jdk_2529_method_13_code 55 = .ok (.iload 4, 2) := by decide +kernel
theorem dso2_57 : decode jdk_2529_method_13_code 57 = .ok (.invokestatic 105, 3) := by decide +kernel
theorem dso2_60 : decode jdk_2529_method_13_code 60 = .ok (.return_, 1) := by decide +kernel
theorem pnso2 : plainName "java/util/DualPivotQuicksort" = true := by first | (simp [plainName, overriddenIn]; done) | decide +kernel
theorem efso2 (m : MethodId) (ao : Addr)  : entryFrame m #[.null, (.ref ao), (.int (0 : Int32)), (.int (0 : Int32)), (.int (2 : Int32))] 25 = mkF m 0 #[.val .null, .val (.ref ao), .val (.int (0 : Int32)), .val (.int (0 : Int32)), .val (.int (2 : Int32)), .unset, .unset, .unset, .unset, .unset, .unset, .unset, .unset, .unset, .unset, .unset, .unset, .unset, .unset, .unset, .unset, .unset, .unset, .unset, .unset] [] := by first | (simp [entryFrame, mkF, argsToLocals, Value.category]; done) | rfl
set_option maxRecDepth 65536 in
set_option maxHeartbeats 40000000 in
theorem rmso2 (l : Launch) (Z : State) (a0 : Array Value) (hw : ∀ d ∈ tables_1, d.before a0 Z = true) (ao : Addr) (k : ClassId) (x0 x1 : Int64) (h0 : Heap) (hE : Ext Z.heap h0) (g_ao : Z.heap.size ≤ ao) (Ya : OwnAry Z h0 ao k .long [(.long x0), (.long x1)]) :
    OwnMeets l (⟨"java/util/DualPivotQuicksort", "sort", "(Ljava/util/DualPivotQuicksort$Sorter;[JIII)V"⟩ : MethodName) jdk_2529_method_13_code 25 none ({ frames := 1, cells := 0, slots := 0, locals := 18 } : Room) Z [ao] #[.null, (.ref ao), (.int (0 : Int32)), (.int (0 : Int32)), (.int (2 : Int32))] h0 (fun v h => v = none ∧ ∃ y0 y1 : Int64, OwnAry Z h ao k .long [(.long y0), (.long y1)] ∧ (x1 < x0 ∧ y0 = x1 ∧ y1 = x0 ∨ ¬ x1 < x0 ∧ y0 = x0 ∧ y1 = x1)) := by
  refine OwnMeets.of (plainFor_of_name pnso2) hE (allS g_ao all0) ?_
  intro p e s m below meth c T C P
  have hx := C.1
  have hby := C.2.2.2.2.1
  rw [show entryFrame m #[.null, (.ref ao), (.int (0 : Int32)), (.int (0 : Int32)), (.int (2 : Int32))] 25 = _ from efso2 m ao]
  show OwnDone p e below _ (T.setTop (mkF m 0 #[.val .null, .val (.ref ao), .val (.int (0 : Int32)), .val (.int (0 : Int32)), .val (.int (2 : Int32)), .unset, .unset, .unset, .unset, .unset, .unset, .unset, .unset, .unset, .unset, .unset, .unset, .unset, .unset, .unset, .unset, .unset, .unset, .unset, .unset] []))
  refine OwnDone.go (A := (T.setTop (mkF m 18 #[.val .null, .val (.ref ao), .val (.int (0 : Int32)), .val (.int (0 : Int32)), .val (.int (2 : Int32)), .val (.int (1 : Int32)), .val (.int (2 : Int32)), .unset, .unset, .unset, .unset, .unset, .unset, .unset, .unset, .unset, .unset, .unset, .unset, .unset, .unset, .unset, .unset, .unset, .unset] [(.int (65 : Int32)), (.int (2 : Int32))]))) (fun tQ kQ => ?_) ?_
  · refine XS.iload P.here hx rfl (hb hby dso2_0) rfl ?_
    show Steps p.tables e below (T.setTop (mkF m 2 #[.val .null, .val (.ref ao), .val (.int (0 : Int32)), .val (.int (0 : Int32)), .val (.int (2 : Int32)), .unset, .unset, .unset, .unset, .unset, .unset, .unset, .unset, .unset, .unset, .unset, .unset, .unset, .unset, .unset, .unset, .unset, .unset, .unset, .unset] [(.int (2 : Int32))])) _
    refine XS.iconst P.here hx rfl (hb hby dso2_2) ?_
    show Steps p.tables e below (T.setTop (mkF m 3 #[.val .null, .val (.ref ao), .val (.int (0 : Int32)), .val (.int (0 : Int32)), .val (.int (2 : Int32)), .unset, .unset, .unset, .unset, .unset, .unset, .unset, .unset, .unset, .unset, .unset, .unset, .unset, .unset, .unset, .unset, .unset, .unset, .unset, .unset] [(.int (1 : Int32)), (.int (2 : Int32))])) _
    refine XS.isub P.here hx rfl (hb hby dso2_3) rfl ?_
    show Steps p.tables e below (T.setTop (mkF m 4 #[.val .null, .val (.ref ao), .val (.int (0 : Int32)), .val (.int (0 : Int32)), .val (.int (2 : Int32)), .unset, .unset, .unset, .unset, .unset, .unset, .unset, .unset, .unset, .unset, .unset, .unset, .unset, .unset, .unset, .unset, .unset, .unset, .unset, .unset] [(.int (1 : Int32))])) _
    refine XS.istore P.here hx rfl (hb hby dso2_4) rfl (l' := #[.val .null, .val (.ref ao), .val (.int (0 : Int32)), .val (.int (0 : Int32)), .val (.int (2 : Int32)), .val (.int (1 : Int32)), .unset, .unset, .unset, .unset, .unset, .unset, .unset, .unset, .unset, .unset, .unset, .unset, .unset, .unset, .unset, .unset, .unset, .unset, .unset]) rfl ?_
    show Steps p.tables e below (T.setTop (mkF m 6 #[.val .null, .val (.ref ao), .val (.int (0 : Int32)), .val (.int (0 : Int32)), .val (.int (2 : Int32)), .val (.int (1 : Int32)), .unset, .unset, .unset, .unset, .unset, .unset, .unset, .unset, .unset, .unset, .unset, .unset, .unset, .unset, .unset, .unset, .unset, .unset, .unset] [])) _
    refine XS.iload P.here hx rfl (hb hby dso2_6) rfl ?_
    show Steps p.tables e below (T.setTop (mkF m 8 #[.val .null, .val (.ref ao), .val (.int (0 : Int32)), .val (.int (0 : Int32)), .val (.int (2 : Int32)), .val (.int (1 : Int32)), .unset, .unset, .unset, .unset, .unset, .unset, .unset, .unset, .unset, .unset, .unset, .unset, .unset, .unset, .unset, .unset, .unset, .unset, .unset] [(.int (2 : Int32))])) _
    refine XS.iloadN P.here hx rfl (hb hby dso2_8) rfl ?_
    show Steps p.tables e below (T.setTop (mkF m 9 #[.val .null, .val (.ref ao), .val (.int (0 : Int32)), .val (.int (0 : Int32)), .val (.int (2 : Int32)), .val (.int (1 : Int32)), .unset, .unset, .unset, .unset, .unset, .unset, .unset, .unset, .unset, .unset, .unset, .unset, .unset, .unset, .unset, .unset, .unset, .unset, .unset] [(.int (0 : Int32)), (.int (2 : Int32))])) _
    refine XS.isub P.here hx rfl (hb hby dso2_9) rfl ?_
    show Steps p.tables e below (T.setTop (mkF m 10 #[.val .null, .val (.ref ao), .val (.int (0 : Int32)), .val (.int (0 : Int32)), .val (.int (2 : Int32)), .val (.int (1 : Int32)), .unset, .unset, .unset, .unset, .unset, .unset, .unset, .unset, .unset, .unset, .unset, .unset, .unset, .unset, .unset, .unset, .unset, .unset, .unset] [(.int (2 : Int32))])) _
    refine XS.istore P.here hx rfl (hb hby dso2_10) rfl (l' := #[.val .null, .val (.ref ao), .val (.int (0 : Int32)), .val (.int (0 : Int32)), .val (.int (2 : Int32)), .val (.int (1 : Int32)), .val (.int (2 : Int32)), .unset, .unset, .unset, .unset, .unset, .unset, .unset, .unset, .unset, .unset, .unset, .unset, .unset, .unset, .unset, .unset, .unset, .unset]) rfl ?_
    show Steps p.tables e below (T.setTop (mkF m 12 #[.val .null, .val (.ref ao), .val (.int (0 : Int32)), .val (.int (0 : Int32)), .val (.int (2 : Int32)), .val (.int (1 : Int32)), .val (.int (2 : Int32)), .unset, .unset, .unset, .unset, .unset, .unset, .unset, .unset, .unset, .unset, .unset, .unset, .unset, .unset, .unset, .unset, .unset, .unset] [])) _
    refine XS.iload P.here hx rfl (hb hby dso2_12) rfl ?_
    show Steps p.tables e below (T.setTop (mkF m 14 #[.val .null, .val (.ref ao), .val (.int (0 : Int32)), .val (.int (0 : Int32)), .val (.int (2 : Int32)), .val (.int (1 : Int32)), .val (.int (2 : Int32)), .unset, .unset, .unset, .unset, .unset, .unset, .unset, .unset, .unset, .unset, .unset, .unset, .unset, .unset, .unset, .unset, .unset, .unset] [(.int (2 : Int32))])) _
    refine XS.bipush P.here hx rfl (hb hby dso2_14) ?_
    show Steps p.tables e below (T.setTop (mkF m 16 #[.val .null, .val (.ref ao), .val (.int (0 : Int32)), .val (.int (0 : Int32)), .val (.int (2 : Int32)), .val (.int (1 : Int32)), .val (.int (2 : Int32)), .unset, .unset, .unset, .unset, .unset, .unset, .unset, .unset, .unset, .unset, .unset, .unset, .unset, .unset, .unset, .unset, .unset, .unset] [(.int (65 : Int32)), (.int (2 : Int32))])) _
    refine XS.iloadN P.here hx rfl (hb hby dso2_16) rfl ?_
    show Steps p.tables e below (T.setTop (mkF m 17 #[.val .null, .val (.ref ao), .val (.int (0 : Int32)), .val (.int (0 : Int32)), .val (.int (2 : Int32)), .val (.int (1 : Int32)), .val (.int (2 : Int32)), .unset, .unset, .unset, .unset, .unset, .unset, .unset, .unset, .unset, .unset, .unset, .unset, .unset, .unset, .unset, .unset, .unset, .unset] [(.int (0 : Int32)), (.int (65 : Int32)), (.int (2 : Int32))])) _
    refine XS.iadd P.here hx rfl (hb hby dso2_17) rfl ?_
    show Steps p.tables e below (T.setTop (mkF m 18 #[.val .null, .val (.ref ao), .val (.int (0 : Int32)), .val (.int (0 : Int32)), .val (.int (2 : Int32)), .val (.int (1 : Int32)), .val (.int (2 : Int32)), .unset, .unset, .unset, .unset, .unset, .unset, .unset, .unset, .unset, .unset, .unset, .unset, .unset, .unset, .unset, .unset, .unset, .unset] [(.int (65 : Int32)), (.int (2 : Int32))])) _
    exact kQ
  show OwnDone p e below _ (T.setTop (mkF m 18 #[.val .null, .val (.ref ao), .val (.int (0 : Int32)), .val (.int (0 : Int32)), .val (.int (2 : Int32)), .val (.int (1 : Int32)), .val (.int (2 : Int32)), .unset, .unset, .unset, .unset, .unset, .unset, .unset, .unset, .unset, .unset, .unset, .unset, .unset, .unset, .unset, .unset, .unset, .unset] [(.int (65 : Int32)), (.int (2 : Int32))]))
  refine OwnDone.go (A := (T.setTop (mkF m 21 #[.val .null, .val (.ref ao), .val (.int (0 : Int32)), .val (.int (0 : Int32)), .val (.int (2 : Int32)), .val (.int (1 : Int32)), .val (.int (2 : Int32)), .unset, .unset, .unset, .unset, .unset, .unset, .unset, .unset, .unset, .unset, .unset, .unset, .unset, .unset, .unset, .unset, .unset, .unset] []))) (fun tQ kQ => XS.icmpNo P.here hx rfl (hb hby dso2_18) rfl (XT.ii_ge_f (by decide)) kQ) ?_
  show OwnDone p e below _ (T.setTop (mkF m 21 #[.val .null, .val (.ref ao), .val (.int (0 : Int32)), .val (.int (0 : Int32)), .val (.int (2 : Int32)), .val (.int (1 : Int32)), .val (.int (2 : Int32)), .unset, .unset, .unset, .unset, .unset, .unset, .unset, .unset, .unset, .unset, .unset, .unset, .unset, .unset, .unset, .unset, .unset, .unset] []))
  refine OwnDone.go (A := (T.setTop (mkF m 24 #[.val .null, .val (.ref ao), .val (.int (0 : Int32)), .val (.int (0 : Int32)), .val (.int (2 : Int32)), .val (.int (1 : Int32)), .val (.int (2 : Int32)), .unset, .unset, .unset, .unset, .unset, .unset, .unset, .unset, .unset, .unset, .unset, .unset, .unset, .unset, .unset, .unset, .unset, .unset] [(.int (0 : Int32))]))) (fun tQ kQ => ?_) ?_
  · refine XS.iloadN P.here hx rfl (hb hby dso2_21) rfl ?_
    show Steps p.tables e below (T.setTop (mkF m 22 #[.val .null, .val (.ref ao), .val (.int (0 : Int32)), .val (.int (0 : Int32)), .val (.int (2 : Int32)), .val (.int (1 : Int32)), .val (.int (2 : Int32)), .unset, .unset, .unset, .unset, .unset, .unset, .unset, .unset, .unset, .unset, .unset, .unset, .unset, .unset, .unset, .unset, .unset, .unset] [(.int (0 : Int32))])) _
    refine XS.iconst P.here hx rfl (hb hby dso2_22) ?_
    show Steps p.tables e below (T.setTop (mkF m 23 #[.val .null, .val (.ref ao), .val (.int (0 : Int32)), .val (.int (0 : Int32)), .val (.int (2 : Int32)), .val (.int (1 : Int32)), .val (.int (2 : Int32)), .unset, .unset, .unset, .unset, .unset, .unset, .unset, .unset, .unset, .unset, .unset, .unset, .unset, .unset, .unset, .unset, .unset, .unset] [(.int (1 : Int32)), (.int (0 : Int32))])) _
    refine XS.iand P.here hx rfl (hb hby dso2_23) rfl ?_
    show Steps p.tables e below (T.setTop (mkF m 24 #[.val .null, .val (.ref ao), .val (.int (0 : Int32)), .val (.int (0 : Int32)), .val (.int (2 : Int32)), .val (.int (1 : Int32)), .val (.int (2 : Int32)), .unset, .unset, .unset, .unset, .unset, .unset, .unset, .unset, .unset, .unset, .unset, .unset, .unset, .unset, .unset, .unset, .unset, .unset] [(.int (0 : Int32))])) _
    exact kQ
  show OwnDone p e below _ (T.setTop (mkF m 24 #[.val .null, .val (.ref ao), .val (.int (0 : Int32)), .val (.int (0 : Int32)), .val (.int (2 : Int32)), .val (.int (1 : Int32)), .val (.int (2 : Int32)), .unset, .unset, .unset, .unset, .unset, .unset, .unset, .unset, .unset, .unset, .unset, .unset, .unset, .unset, .unset, .unset, .unset, .unset] [(.int (0 : Int32))]))
  refine OwnDone.go (A := (T.setTop (mkF m 46 #[.val .null, .val (.ref ao), .val (.int (0 : Int32)), .val (.int (0 : Int32)), .val (.int (2 : Int32)), .val (.int (1 : Int32)), .val (.int (2 : Int32)), .unset, .unset, .unset, .unset, .unset, .unset, .unset, .unset, .unset, .unset, .unset, .unset, .unset, .unset, .unset, .unset, .unset, .unset] []))) (fun tQ kQ => XS.ifYes P.here hx rfl (pc0 := 24) (pc' := 46) rfl (hb hby dso2_24) rfl (XT.i0_le_t (by decide)) (by decide) (by decide) kQ) ?_
  show OwnDone p e below _ (T.setTop (mkF m 46 #[.val .null, .val (.ref ao), .val (.int (0 : Int32)), .val (.int (0 : Int32)), .val (.int (2 : Int32)), .val (.int (1 : Int32)), .val (.int (2 : Int32)), .unset, .unset, .unset, .unset, .unset, .unset, .unset, .unset, .unset, .unset, .unset, .unset, .unset, .unset, .unset, .unset, .unset, .unset] []))
  refine OwnDone.go (A := (T.setTop (mkF m 50 #[.val .null, .val (.ref ao), .val (.int (0 : Int32)), .val (.int (0 : Int32)), .val (.int (2 : Int32)), .val (.int (1 : Int32)), .val (.int (2 : Int32)), .unset, .unset, .unset, .unset, .unset, .unset, .unset, .unset, .unset, .unset, .unset, .unset, .unset, .unset, .unset, .unset, .unset, .unset] [(.int (44 : Int32)), (.int (2 : Int32))]))) (fun tQ kQ => ?_) ?_
  · refine XS.iload P.here hx rfl (hb hby dso2_46) rfl ?_
    show Steps p.tables e below (T.setTop (mkF m 48 #[.val .null, .val (.ref ao), .val (.int (0 : Int32)), .val (.int (0 : Int32)), .val (.int (2 : Int32)), .val (.int (1 : Int32)), .val (.int (2 : Int32)), .unset, .unset, .unset, .unset, .unset, .unset, .unset, .unset, .unset, .unset, .unset, .unset, .unset, .unset, .unset, .unset, .unset, .unset] [(.int (2 : Int32))])) _
    refine XS.bipush P.here hx rfl (hb hby dso2_48) ?_
    show Steps p.tables e below (T.setTop (mkF m 50 #[.val .null, .val (.ref ao), .val (.int (0 : Int32)), .val (.int (0 : Int32)), .val (.int (2 : Int32)), .val (.int (1 : Int32)), .val (.int (2 : Int32)), .unset, .unset, .unset, .unset, .unset, .unset, .unset, .unset, .unset, .unset, .unset, .unset, .unset, .unset, .unset, .unset, .unset, .unset] [(.int (44 : Int32)), (.int (2 : Int32))])) _
    exact kQ
  show OwnDone p e below _ (T.setTop (mkF m 50 #[.val .null, .val (.ref ao), .val (.int (0 : Int32)), .val (.int (0 : Int32)), .val (.int (2 : Int32)), .val (.int (1 : Int32)), .val (.int (2 : Int32)), .unset, .unset, .unset, .unset, .unset, .unset, .unset, .unset, .unset, .unset, .unset, .unset, .unset, .unset, .unset, .unset, .unset, .unset] [(.int (44 : Int32)), (.int (2 : Int32))]))
  refine OwnDone.go (A := (T.setTop (mkF m 53 #[.val .null, .val (.ref ao), .val (.int (0 : Int32)), .val (.int (0 : Int32)), .val (.int (2 : Int32)), .val (.int (1 : Int32)), .val (.int (2 : Int32)), .unset, .unset, .unset, .unset, .unset, .unset, .unset, .unset, .unset, .unset, .unset, .unset, .unset, .unset, .unset, .unset, .unset, .unset] []))) (fun tQ kQ => XS.icmpNo P.here hx rfl (hb hby dso2_50) rfl (XT.ii_ge_f (by decide)) kQ) ?_
  show OwnDone p e below _ (T.setTop (mkF m 53 #[.val .null, .val (.ref ao), .val (.int (0 : Int32)), .val (.int (0 : Int32)), .val (.int (2 : Int32)), .val (.int (1 : Int32)), .val (.int (2 : Int32)), .unset, .unset, .unset, .unset, .unset, .unset, .unset, .unset, .unset, .unset, .unset, .unset, .unset, .unset, .unset, .unset, .unset, .unset] []))
  refine OwnDone.go (A := (T.setTop (mkF m 57 #[.val .null, .val (.ref ao), .val (.int (0 : Int32)), .val (.int (0 : Int32)), .val (.int (2 : Int32)), .val (.int (1 : Int32)), .val (.int (2 : Int32)), .unset, .unset, .unset, .unset, .unset, .unset, .unset, .unset, .unset, .unset, .unset, .unset, .unset, .unset, .unset, .unset, .unset, .unset] [(.int (2 : Int32)), (.int (0 : Int32)), (.ref ao)]))) (fun tQ kQ => ?_) ?_
  · refine XS.aloadN P.here hx rfl (hb hby dso2_53) rfl rfl ?_
    show Steps p.tables e below (T.setTop (mkF m 54 #[.val .null, .val (.ref ao), .val (.int (0 : Int32)), .val (.int (0 : Int32)), .val (.int (2 : Int32)), .val (.int (1 : Int32)), .val (.int (2 : Int32)), .unset, .unset, .unset, .unset, .unset, .unset, .unset, .unset, .unset, .unset, .unset, .unset, .unset, .unset, .unset, .unset, .unset, .unset] [(.ref ao)])) _
    refine XS.iloadN P.here hx rfl (hb hby dso2_54) rfl ?_
    show Steps p.tables e below (T.setTop (mkF m 55 #[.val .null, .val (.ref ao), .val (.int (0 : Int32)), .val (.int (0 : Int32)), .val (.int (2 : Int32)), .val (.int (1 : Int32)), .val (.int (2 : Int32)), .unset, .unset, .unset, .unset, .unset, .unset, .unset, .unset, .unset, .unset, .unset, .unset, .unset, .unset, .unset, .unset, .unset, .unset] [(.int (0 : Int32)), (.ref ao)])) _
    refine XS.iload P.here hx rfl (hb hby dso2_55) rfl ?_
    show Steps p.tables e below (T.setTop (mkF m 57 #[.val .null, .val (.ref ao), .val (.int (0 : Int32)), .val (.int (0 : Int32)), .val (.int (2 : Int32)), .val (.int (1 : Int32)), .val (.int (2 : Int32)), .unset, .unset, .unset, .unset, .unset, .unset, .unset, .unset, .unset, .unset, .unset, .unset, .unset, .unset, .unset, .unset, .unset, .unset] [(.int (2 : Int32)), (.int (0 : Int32)), (.ref ao)])) _
    exact kQ
  show OwnDone p e below _ (T.setTop (mkF m 57 #[.val .null, .val (.ref ao), .val (.int (0 : Int32)), .val (.int (0 : Int32)), .val (.int (2 : Int32)), .val (.int (1 : Int32)), .val (.int (2 : Int32)), .unset, .unset, .unset, .unset, .unset, .unset, .unset, .unset, .unset, .unset, .unset, .unset, .unset, .unset, .unset, .unset, .unset, .unset] [(.int (2 : Int32)), (.int (0 : Int32)), (.ref ao)]))
  refine own_callS (y := (⟨"java/util/DualPivotQuicksort", "insertionSort", "([JII)V"⟩ : MethodName)) C P (hw _ (List.mem_of_getElem? (i := 139) rfl)) (hw _ (List.mem_of_getElem? (i := 140) rfl)) (hw _ (List.mem_of_getElem? (i := 134) rfl)) (hw _ (List.mem_of_getElem? (i := 141) rfl)) (by decide) (rmins l Z a0 hw ao k x0 x1 h0 P.old g_ao Ya) (as := [(.ref ao), (.int (0 : Int32)), (.int (2 : Int32))]) (rest := []) pd_7 rfl rfl (wd := 0) rfl rfl dso2_57 (allS (Or.inl (List.mem_of_getElem? (i := 0) rfl)) all0) (by decide) (by decide) (by decide) (by decide) (fun T1 h1 v1 P1 K1 hQ1 => ?_)
  obtain ⟨rfl, y01, y11, Y1, so1⟩ := hQ1
  show OwnDone p e below _ (T1.setTop (mkF m 60 #[.val .null, .val (.ref ao), .val (.int (0 : Int32)), .val (.int (0 : Int32)), .val (.int (2 : Int32)), .val (.int (1 : Int32)), .val (.int (2 : Int32)), .unset, .unset, .unset, .unset, .unset, .unset, .unset, .unset, .unset, .unset, .unset, .unset, .unset, .unset, .unset, .unset, .unset, .unset] []))
  refine own_retV C P1 dso2_60 (by decide) (by decide) ⟨rfl, _, _, Y1, so1⟩
theorem dso1_0 : decode jdk_2529_method_12_code 0 = .ok (.iload_n 3, 1) := by decide +kernel
theorem dso1_1 : decode jdk_2529_method_12_code 1 = .ok (.iload_n 2, 1) := by decide +kernel
theorem dso1_2 : decode jdk_2529_method_12_code 2 = .ok (.isub, 1) := by decide +kernel
theorem dso1_3 : decode jdk_2529_method_12_code 3 = .ok (.istore 4, 2) := by decide +kernel
theorem dso1_5 : decode jdk_2529_method_12_code 5 = .ok (.iload_n 1, 1) := by decide +kernel
theorem dso1_6 : decode jdk_2529_method_12_code 6 = .ok (.iconst 1, 1) := by decide +kernel
theorem dso1_7 : decode jdk_2529_method_12_code 7 = .ok (.if_icmp .le 61, 3) := by decide +kernel
theorem dso1_68 : decode jdk_2529_method_12_code 68 = .ok (.aconst_null, 1) := by decide +kernel
theorem dso1_69 : decode jdk_2529_method_12_code 69 = .ok (.aload_n 0, 1) := by decide +kernel
theorem dso1_70 : decode jdk_2529_method_12_code 70 = .ok (.iconst 0, 1) := by decide +kernel
theorem dso1_71 : decode jdk_2529_method_12_code 71 = .ok (.iload_n 2, 1) := by decide +kernel
theorem dso1_72 : decode jdk_2529_method_12_code 72 = .ok (.iload_n 3, 1) := by decide +kernel
theorem dso1_73 : decode jdk_2529_method_12_code 73 = .ok (.invokestatic 99, 3) := by decide +kernel
theorem dso1_76 : decode jdk_2529_method_12_code 76 = .ok (.return_, 1) := by decide +kernel
theorem pnso1 : plainName "java/util/DualPivotQuicksort" = true := by first | (simp [plainName, overriddenIn]; done) | decide +kernel
theorem efso1 (m : MethodId) (ao : Addr)  : entryFrame m #[(.ref ao), (.int (0 : Int32)), (.int (0 : Int32)), (.int (2 : Int32))] 7 = mkF m 0 #[.val (.ref ao), .val (.int (0 : Int32)), .val (.int (0 : Int32)), .val (.int (2 : Int32)), .unset, .unset, .unset] [] := by first | (simp [entryFrame, mkF, argsToLocals, Value.category]; done) | rfl
set_option maxRecDepth 65536 in
set_option maxHeartbeats 40000000 in
theorem rmso1 (l : Launch) (Z : State) (a0 : Array Value) (hw : ∀ d ∈ tables_1, d.before a0 Z = true) (ao : Addr) (k : ClassId) (x0 x1 : Int64) (h0 : Heap) (hE : Ext Z.heap h0) (g_ao : Z.heap.size ≤ ao) (Ya : OwnAry Z h0 ao k .long [(.long x0), (.long x1)]) :
    OwnMeets l (⟨"java/util/DualPivotQuicksort", "sort", "([JIII)V"⟩ : MethodName) jdk_2529_method_12_code 7 none ({ frames := 2, cells := 0, slots := 0, locals := 54 } : Room) Z [ao] #[(.ref ao), (.int (0 : Int32)), (.int (0 : Int32)), (.int (2 : Int32))] h0 (fun v h => v = none ∧ ∃ y0 y1 : Int64, OwnAry Z h ao k .long [(.long y0), (.long y1)] ∧ (x1 < x0 ∧ y0 = x1 ∧ y1 = x0 ∨ ¬ x1 < x0 ∧ y0 = x0 ∧ y1 = x1)) := by
  refine OwnMeets.of (plainFor_of_name pnso1) hE (allS g_ao all0) ?_
  intro p e s m below meth c T C P
  have hx := C.1
  have hby := C.2.2.2.2.1
  rw [show entryFrame m #[(.ref ao), (.int (0 : Int32)), (.int (0 : Int32)), (.int (2 : Int32))] 7 = _ from efso1 m ao]
  show OwnDone p e below _ (T.setTop (mkF m 0 #[.val (.ref ao), .val (.int (0 : Int32)), .val (.int (0 : Int32)), .val (.int (2 : Int32)), .unset, .unset, .unset] []))
  refine OwnDone.go (A := (T.setTop (mkF m 7 #[.val (.ref ao), .val (.int (0 : Int32)), .val (.int (0 : Int32)), .val (.int (2 : Int32)), .val (.int (2 : Int32)), .unset, .unset] [(.int (1 : Int32)), (.int (0 : Int32))]))) (fun tQ kQ => ?_) ?_
  · refine XS.iloadN P.here hx rfl (hb hby dso1_0) rfl ?_
    show Steps p.tables e below (T.setTop (mkF m 1 #[.val (.ref ao), .val (.int (0 : Int32)), .val (.int (0 : Int32)), .val (.int (2 : Int32)), .unset, .unset, .unset] [(.int (2 : Int32))])) _
    refine XS.iloadN P.here hx rfl (hb hby dso1_1) rfl ?_
    show Steps p.tables e below (T.setTop (mkF m 2 #[.val (.ref ao), .val (.int (0 : Int32)), .val (.int (0 : Int32)), .val (.int (2 : Int32)), .unset, .unset, .unset] [(.int (0 : Int32)), (.int (2 : Int32))])) _
    refine XS.isub P.here hx rfl (hb hby dso1_2) rfl ?_
    show Steps p.tables e below (T.setTop (mkF m 3 #[.val (.ref ao), .val (.int (0 : Int32)), .val (.int (0 : Int32)), .val (.int (2 : Int32)), .unset, .unset, .unset] [(.int (2 : Int32))])) _
    refine XS.istore P.here hx rfl (hb hby dso1_3) rfl (l' := #[.val (.ref ao), .val (.int (0 : Int32)), .val (.int (0 : Int32)), .val (.int (2 : Int32)), .val (.int (2 : Int32)), .unset, .unset]) rfl ?_
    show Steps p.tables e below (T.setTop (mkF m 5 #[.val (.ref ao), .val (.int (0 : Int32)), .val (.int (0 : Int32)), .val (.int (2 : Int32)), .val (.int (2 : Int32)), .unset, .unset] [])) _
    refine XS.iloadN P.here hx rfl (hb hby dso1_5) rfl ?_
    show Steps p.tables e below (T.setTop (mkF m 6 #[.val (.ref ao), .val (.int (0 : Int32)), .val (.int (0 : Int32)), .val (.int (2 : Int32)), .val (.int (2 : Int32)), .unset, .unset] [(.int (0 : Int32))])) _
    refine XS.iconst P.here hx rfl (hb hby dso1_6) ?_
    show Steps p.tables e below (T.setTop (mkF m 7 #[.val (.ref ao), .val (.int (0 : Int32)), .val (.int (0 : Int32)), .val (.int (2 : Int32)), .val (.int (2 : Int32)), .unset, .unset] [(.int (1 : Int32)), (.int (0 : Int32))])) _
    exact kQ
  show OwnDone p e below _ (T.setTop (mkF m 7 #[.val (.ref ao), .val (.int (0 : Int32)), .val (.int (0 : Int32)), .val (.int (2 : Int32)), .val (.int (2 : Int32)), .unset, .unset] [(.int (1 : Int32)), (.int (0 : Int32))]))
  refine OwnDone.go (A := (T.setTop (mkF m 68 #[.val (.ref ao), .val (.int (0 : Int32)), .val (.int (0 : Int32)), .val (.int (2 : Int32)), .val (.int (2 : Int32)), .unset, .unset] []))) (fun tQ kQ => XS.icmpYes P.here hx rfl (pc0 := 7) (pc' := 68) rfl (hb hby dso1_7) rfl (XT.ii_le_t (by decide)) (by decide) (by decide) kQ) ?_
  show OwnDone p e below _ (T.setTop (mkF m 68 #[.val (.ref ao), .val (.int (0 : Int32)), .val (.int (0 : Int32)), .val (.int (2 : Int32)), .val (.int (2 : Int32)), .unset, .unset] []))
  refine OwnDone.go (A := (T.setTop (mkF m 73 #[.val (.ref ao), .val (.int (0 : Int32)), .val (.int (0 : Int32)), .val (.int (2 : Int32)), .val (.int (2 : Int32)), .unset, .unset] [(.int (2 : Int32)), (.int (0 : Int32)), (.int (0 : Int32)), (.ref ao), .null]))) (fun tQ kQ => ?_) ?_
  · refine XS.aconstNull P.here hx rfl (hb hby dso1_68) ?_
    show Steps p.tables e below (T.setTop (mkF m 69 #[.val (.ref ao), .val (.int (0 : Int32)), .val (.int (0 : Int32)), .val (.int (2 : Int32)), .val (.int (2 : Int32)), .unset, .unset] [.null])) _
    refine XS.aloadN P.here hx rfl (hb hby dso1_69) rfl rfl ?_
    show Steps p.tables e below (T.setTop (mkF m 70 #[.val (.ref ao), .val (.int (0 : Int32)), .val (.int (0 : Int32)), .val (.int (2 : Int32)), .val (.int (2 : Int32)), .unset, .unset] [(.ref ao), .null])) _
    refine XS.iconst P.here hx rfl (hb hby dso1_70) ?_
    show Steps p.tables e below (T.setTop (mkF m 71 #[.val (.ref ao), .val (.int (0 : Int32)), .val (.int (0 : Int32)), .val (.int (2 : Int32)), .val (.int (2 : Int32)), .unset, .unset] [(.int (0 : Int32)), (.ref ao), .null])) _
    refine XS.iloadN P.here hx rfl (hb hby dso1_71) rfl ?_
    show Steps p.tables e below (T.setTop (mkF m 72 #[.val (.ref ao), .val (.int (0 : Int32)), .val (.int (0 : Int32)), .val (.int (2 : Int32)), .val (.int (2 : Int32)), .unset, .unset] [(.int (0 : Int32)), (.int (0 : Int32)), (.ref ao), .null])) _
    refine XS.iloadN P.here hx rfl (hb hby dso1_72) rfl ?_
    show Steps p.tables e below (T.setTop (mkF m 73 #[.val (.ref ao), .val (.int (0 : Int32)), .val (.int (0 : Int32)), .val (.int (2 : Int32)), .val (.int (2 : Int32)), .unset, .unset] [(.int (2 : Int32)), (.int (0 : Int32)), (.int (0 : Int32)), (.ref ao), .null])) _
    exact kQ
  show OwnDone p e below _ (T.setTop (mkF m 73 #[.val (.ref ao), .val (.int (0 : Int32)), .val (.int (0 : Int32)), .val (.int (2 : Int32)), .val (.int (2 : Int32)), .unset, .unset] [(.int (2 : Int32)), (.int (0 : Int32)), (.int (0 : Int32)), (.ref ao), .null]))
  refine own_callS (y := (⟨"java/util/DualPivotQuicksort", "sort", "(Ljava/util/DualPivotQuicksort$Sorter;[JIII)V"⟩ : MethodName)) C P (hw _ (List.mem_of_getElem? (i := 136) rfl)) (hw _ (List.mem_of_getElem? (i := 137) rfl)) (hw _ (List.mem_of_getElem? (i := 134) rfl)) (hw _ (List.mem_of_getElem? (i := 138) rfl)) (by decide) (rmso2 l Z a0 hw ao k x0 x1 h0 P.old g_ao Ya) (as := [.null, (.ref ao), (.int (0 : Int32)), (.int (0 : Int32)), (.int (2 : Int32))]) (rest := []) pd_8 rfl rfl (wd := 0) rfl rfl dso1_73 (allS (Or.inl (List.mem_of_getElem? (i := 0) rfl)) all0) (by decide) (by decide) (by decide) (by decide) (fun T1 h1 v1 P1 K1 hQ1 => ?_)
  obtain ⟨rfl, y01, y11, Y1, so1⟩ := hQ1
  show OwnDone p e below _ (T1.setTop (mkF m 76 #[.val (.ref ao), .val (.int (0 : Int32)), .val (.int (0 : Int32)), .val (.int (2 : Int32)), .val (.int (2 : Int32)), .unset, .unset] []))
  refine own_retV C P1 dso1_76 (by decide) (by decide) ⟨rfl, _, _, Y1, so1⟩
theorem dsoa_0 : decode jdk_65_method_4_code 0 = .ok (.aload_n 0, 1) := by decide +kernel
theorem dsoa_1 : decode jdk_65_method_4_code 1 = .ok (.iconst 0, 1) := by decide +kernel
theorem dsoa_2 : decode jdk_65_method_4_code 2 = .ok (.iconst 0, 1) := by decide +kernel
theorem dsoa_3 : decode jdk_65_method_4_code 3 = .ok (.aload_n 0, 1) := by decide +kernel
theorem dsoa_4 : decode jdk_65_method_4_code 4 = .ok (.arraylength, 1) := by decide +kernel
theorem dsoa_5 : decode jdk_65_method_4_code 5 = .ok (.invokestatic 19, 3) := by decide +kernel
theorem dsoa_8 : decode jdk_65_method_4_code 8 = .ok (.return_, 1) := by decide +kernel
theorem pnsoa : plainName "java/util/Arrays" = true := by first | (simp [plainName, overriddenIn]; done) | decide +kernel
theorem efsoa (m : MethodId) (ao : Addr)  : entryFrame m #[(.ref ao)] 1 = mkF m 0 #[.val (.ref ao)] [] := by first | (simp [entryFrame, mkF, argsToLocals, Value.category]; done) | rfl
set_option maxRecDepth 65536 in
set_option maxHeartbeats 40000000 in
theorem rmsoa (l : Launch) (Z : State) (a0 : Array Value) (hw : ∀ d ∈ tables_1, d.before a0 Z = true) (ao : Addr) (k : ClassId) (x0 x1 : Int64) (h0 : Heap) (hE : Ext Z.heap h0) (g_ao : Z.heap.size ≤ ao) (Ya : OwnAry Z h0 ao k .long [(.long x0), (.long x1)]) :
    OwnMeets l (⟨"java/util/Arrays", "sort", "([J)V"⟩ : MethodName) jdk_65_method_4_code 1 none ({ frames := 3, cells := 0, slots := 0, locals := 72 } : Room) Z [ao] #[(.ref ao)] h0 (fun v h => v = none ∧ ∃ y0 y1 : Int64, OwnAry Z h ao k .long [(.long y0), (.long y1)] ∧ (x1 < x0 ∧ y0 = x1 ∧ y1 = x0 ∨ ¬ x1 < x0 ∧ y0 = x0 ∧ y1 = x1)) := by
  refine OwnMeets.of (plainFor_of_name pnsoa) hE (allS g_ao all0) ?_
  intro p e s m below meth c T C P
  have hx := C.1
  have hby := C.2.2.2.2.1
  rw [show entryFrame m #[(.ref ao)] 1 = _ from efsoa m ao]
  show OwnDone p e below _ (T.setTop (mkF m 0 #[.val (.ref ao)] []))
  refine OwnDone.go (A := (T.setTop (mkF m 5 #[.val (.ref ao)] [(.int (2 : Int32)), (.int (0 : Int32)), (.int (0 : Int32)), (.ref ao)]))) (fun tQ kQ => ?_) ?_
  · refine XS.aloadN P.here hx rfl (hb hby dsoa_0) rfl rfl ?_
    show Steps p.tables e below (T.setTop (mkF m 1 #[.val (.ref ao)] [(.ref ao)])) _
    refine XS.iconst P.here hx rfl (hb hby dsoa_1) ?_
    show Steps p.tables e below (T.setTop (mkF m 2 #[.val (.ref ao)] [(.int (0 : Int32)), (.ref ao)])) _
    refine XS.iconst P.here hx rfl (hb hby dsoa_2) ?_
    show Steps p.tables e below (T.setTop (mkF m 3 #[.val (.ref ao)] [(.int (0 : Int32)), (.int (0 : Int32)), (.ref ao)])) _
    refine XS.aloadN P.here hx rfl (hb hby dsoa_3) rfl rfl ?_
    show Steps p.tables e below (T.setTop (mkF m 4 #[.val (.ref ao)] [(.ref ao), (.int (0 : Int32)), (.int (0 : Int32)), (.ref ao)])) _
    refine own_alen C P Ya dsoa_4 ?_
    show Steps p.tables e below (T.setTop (mkF m 5 #[.val (.ref ao)] [(.int (2 : Int32)), (.int (0 : Int32)), (.int (0 : Int32)), (.ref ao)])) _
    exact kQ
  show OwnDone p e below _ (T.setTop (mkF m 5 #[.val (.ref ao)] [(.int (2 : Int32)), (.int (0 : Int32)), (.int (0 : Int32)), (.ref ao)]))
  refine own_callS (y := (⟨"java/util/DualPivotQuicksort", "sort", "([JIII)V"⟩ : MethodName)) C P (hw _ (List.mem_of_getElem? (i := 132) rfl)) (hw _ (List.mem_of_getElem? (i := 133) rfl)) (hw _ (List.mem_of_getElem? (i := 134) rfl)) (hw _ (List.mem_of_getElem? (i := 135) rfl)) (by decide) (rmso1 l Z a0 hw ao k x0 x1 h0 P.old g_ao Ya) (as := [(.ref ao), (.int (0 : Int32)), (.int (0 : Int32)), (.int (2 : Int32))]) (rest := []) pd_9 rfl rfl (wd := 0) rfl rfl dsoa_5 (allS (Or.inl (List.mem_of_getElem? (i := 0) rfl)) all0) (by decide) (by decide) (by decide) (by decide) (fun T1 h1 v1 P1 K1 hQ1 => ?_)
  obtain ⟨rfl, y01, y11, Y1, so1⟩ := hQ1
  show OwnDone p e below _ (T1.setTop (mkF m 8 #[.val (.ref ao)] []))
  refine own_retV C P1 dsoa_8 (by decide) (by decide) ⟨rfl, _, _, Y1, so1⟩
theorem dco2_0 : decode jdk_65_method_123_code 0 = .ok (.iload_n 1, 1) := by decide +kernel
theorem dco2_1 : decode jdk_65_method_123_code 1 = .ok (.aload_n 0, 1) := by decide +kernel
theorem dco2_2 : decode jdk_65_method_123_code 2 = .ok (.arraylength, 1) := by decide +kernel
theorem dco2_3 : decode jdk_65_method_123_code 3 = .ok (.if_icmp .ne 11, 3) := by decide +kernel
theorem dco2_14 : decode jdk_65_method_123_code 14 = .ok (.iload_n 1, 1) := by decide +kernel
theorem dco2_15 : decode jdk_65_method_123_code 15 = .ok (.newarray .int, 2) := by decide +kernel
theorem dco2_17 : decode jdk_65_method_123_code 17 = .ok (.astore_n 2, 1) := by decide +kernel
theorem dco2_18 : decode jdk_65_method_123_code 18 = .ok (.aload_n 0, 1) := by decide +kernel
theorem dco2_19 : decode jdk_65_method_123_code 19 = .ok (.iconst 0, 1) := by decide +kernel
theorem dco2_20 : decode jdk_65_method_123_code 20 = .ok (.aload_n 2, 1) := by decide +kernel
theorem dco2_21 : decode jdk_65_method_123_code 21 = .ok (.iconst 0, 1) := by decide +kernel
theorem dco2_22 : decode jdk_65_method_123_code 22 = .ok (.aload_n 0, 1) := by decide +kernel
theorem dco2_23 : decode jdk_65_method_123_code 23 = .ok (.arraylength, 1) := by decide +kernel
theorem dco2_24 : decode jdk_65_method_123_code 24 = .ok (.iload_n 1, 1) := by decide +kernel
theorem dco2_25 : decode jdk_65_method_123_code 25 = .ok (.invokestatic 304, 3) := by decide +kernel
theorem dco2_28 : decode jdk_65_method_123_code 28 = .ok (.invokestatic 150, 3) := by decide +kernel
theorem dco2_31 : decode jdk_65_method_123_code 31 = .ok (.aload_n 2, 1) := by decide +kernel
theorem dco2_32 : decode jdk_65_method_123_code 32 = .ok (.areturn, 1) := by decide +kernel
theorem pnco2 : plainName "java/util/Arrays" = true := by first | (simp [plainName, overriddenIn]; done) | decide +kernel
theorem efco2 (m : MethodId) (ao : Addr)  : entryFrame m #[(.ref ao), (.int (2 : Int32))] 3 = mkF m 0 #[.val (.ref ao), .val (.int (2 : Int32)), .unset] [] := by first | (simp [entryFrame, mkF, argsToLocals, Value.category]; done) | rfl
set_option maxRecDepth 65536 in
set_option maxHeartbeats 40000000 in
theorem rmco2 (l : Launch) (Z : State) (a0 : Array Value) (hw : ∀ d ∈ tables_1, d.before a0 Z = true) (ao : Addr) (k : ClassId) (x0 x1 x2 x3 : Int32) (h0 : Heap) (hE : Ext Z.heap h0)  (Ya : OwnAry Z h0 ao k .int [(.int x0), (.int x1), (.int x2), (.int x3)]) (Na : Z.vm.findClass "[I" = some k) :
    OwnMeets l (⟨"java/util/Arrays", "copyOf", "([II)[I"⟩ : MethodName) jdk_65_method_123_code 3 (some (.array .int)) ({ frames := 1, cells := 1, slots := 2, locals := 40 } : Room) Z [] #[(.ref ao), (.int (2 : Int32))] h0 (fun v h => ∃ r k', v = some (.ref r) ∧ OwnAry Z h r k' .int [(.int x0), (.int x1)] ∧ h0.size ≤ r ∧ Z.vm.findClass "[I" = some k') := by
  refine OwnMeets.of (plainFor_of_name pnco2) hE all0 ?_
  intro p e s m below meth c T C P
  have hx := C.1
  have hby := C.2.2.2.2.1
  rw [show entryFrame m #[(.ref ao), (.int (2 : Int32))] 3 = _ from efco2 m ao]
  show OwnDone p e below _ (T.setTop (mkF m 0 #[.val (.ref ao), .val (.int (2 : Int32)), .unset] []))
  refine OwnDone.go (A := (T.setTop (mkF m 3 #[.val (.ref ao), .val (.int (2 : Int32)), .unset] [(.int (4 : Int32)), (.int (2 : Int32))]))) (fun tQ kQ => ?_) ?_
  · refine XS.iloadN P.here hx rfl (hb hby dco2_0) rfl ?_
    show Steps p.tables e below (T.setTop (mkF m 1 #[.val (.ref ao), .val (.int (2 : Int32)), .unset] [(.int (2 : Int32))])) _
    refine XS.aloadN P.here hx rfl (hb hby dco2_1) rfl rfl ?_
    show Steps p.tables e below (T.setTop (mkF m 2 #[.val (.ref ao), .val (.int (2 : Int32)), .unset] [(.ref ao), (.int (2 : Int32))])) _
    refine own_alen C P Ya dco2_2 ?_
    show Steps p.tables e below (T.setTop (mkF m 3 #[.val (.ref ao), .val (.int (2 : Int32)), .unset] [(.int (4 : Int32)), (.int (2 : Int32))])) _
    exact kQ
  show OwnDone p e below _ (T.setTop (mkF m 3 #[.val (.ref ao), .val (.int (2 : Int32)), .unset] [(.int (4 : Int32)), (.int (2 : Int32))]))
  refine OwnDone.go (A := (T.setTop (mkF m 14 #[.val (.ref ao), .val (.int (2 : Int32)), .unset] []))) (fun tQ kQ => XS.icmpYes P.here hx rfl (pc0 := 3) (pc' := 14) rfl (hb hby dco2_3) rfl (XT.ii_ne_t (by decide)) (by decide) (by decide) kQ) ?_
  show OwnDone p e below _ (T.setTop (mkF m 14 #[.val (.ref ao), .val (.int (2 : Int32)), .unset] []))
  refine OwnDone.go (A := (T.setTop (mkF m 15 #[.val (.ref ao), .val (.int (2 : Int32)), .unset] [(.int (2 : Int32))]))) (fun tQ kQ => ?_) ?_
  · refine XS.iloadN P.here hx rfl (hb hby dco2_14) rfl ?_
    show Steps p.tables e below (T.setTop (mkF m 15 #[.val (.ref ao), .val (.int (2 : Int32)), .unset] [(.int (2 : Int32))])) _
    exact kQ
  show OwnDone p e below _ (T.setTop (mkF m 15 #[.val (.ref ao), .val (.int (2 : Int32)), .unset] [(.int (2 : Int32))]))
  refine own_newP (aty := .int) (n := (2 : Int32)) (cap := 2) (vs := [(.int (0 : Int32)), (.int (0 : Int32))]) C P (hw _ (List.mem_of_getElem? (i := 22) rfl)) dco2_15 (by decide) (by decide) (by decide) (by decide +kernel) rfl (by decide) (by decide) (fun T1 h1 a1 k1 ga1 la1 P1 K1 Y1 N1 => ?_)
  have ge_a1 : h0.size ≤ a1 := by rw [ga1]; exact P.keep.1
  have ne_ao_a1 : ao ≠ a1 := by rw [ga1]; exact Nat.ne_of_lt Ya.lt
  have Y2_ao := Ya.keep K1 nin0
  have Y1 : OwnAry Z h1 a1 k1 .int [(.int (0 : Int32)), (.int (0 : Int32))] := Y1
  show OwnDone p e below _ (T1.setTop (mkF m 17 #[.val (.ref ao), .val (.int (2 : Int32)), .unset] [(.ref a1)]))
  refine OwnDone.go (A := (T1.setTop (mkF m 25 #[.val (.ref ao), .val (.int (2 : Int32)), .val (.ref a1)] [(.int (2 : Int32)), (.int (4 : Int32)), (.int (0 : Int32)), (.ref a1), (.int (0 : Int32)), (.ref ao)]))) (fun tQ kQ => ?_) ?_
  · refine XS.astoreN P1.here hx rfl (hb hby dco2_17) rfl rfl (l' := #[.val (.ref ao), .val (.int (2 : Int32)), .val (.ref a1)]) rfl ?_
    show Steps p.tables e below (T1.setTop (mkF m 18 #[.val (.ref ao), .val (.int (2 : Int32)), .val (.ref a1)] [])) _
    refine XS.aloadN P1.here hx rfl (hb hby dco2_18) rfl rfl ?_
    show Steps p.tables e below (T1.setTop (mkF m 19 #[.val (.ref ao), .val (.int (2 : Int32)), .val (.ref a1)] [(.ref ao)])) _
    refine XS.iconst P1.here hx rfl (hb hby dco2_19) ?_
    show Steps p.tables e below (T1.setTop (mkF m 20 #[.val (.ref ao), .val (.int (2 : Int32)), .val (.ref a1)] [(.int (0 : Int32)), (.ref ao)])) _
    refine XS.aloadN P1.here hx rfl (hb hby dco2_20) rfl rfl ?_
    show Steps p.tables e below (T1.setTop (mkF m 21 #[.val (.ref ao), .val (.int (2 : Int32)), .val (.ref a1)] [(.ref a1), (.int (0 : Int32)), (.ref ao)])) _
    refine XS.iconst P1.here hx rfl (hb hby dco2_21) ?_
    show Steps p.tables e below (T1.setTop (mkF m 22 #[.val (.ref ao), .val (.int (2 : Int32)), .val (.ref a1)] [(.int (0 : Int32)), (.ref a1), (.int (0 : Int32)), (.ref ao)])) _
    refine XS.aloadN P1.here hx rfl (hb hby dco2_22) rfl rfl ?_
    show Steps p.tables e below (T1.setTop (mkF m 23 #[.val (.ref ao), .val (.int (2 : Int32)), .val (.ref a1)] [(.ref ao), (.int (0 : Int32)), (.ref a1), (.int (0 : Int32)), (.ref ao)])) _
    refine own_alen C P1 Y2_ao dco2_23 ?_
    show Steps p.tables e below (T1.setTop (mkF m 24 #[.val (.ref ao), .val (.int (2 : Int32)), .val (.ref a1)] [(.int (4 : Int32)), (.int (0 : Int32)), (.ref a1), (.int (0 : Int32)), (.ref ao)])) _
    refine XS.iloadN P1.here hx rfl (hb hby dco2_24) rfl ?_
    show Steps p.tables e below (T1.setTop (mkF m 25 #[.val (.ref ao), .val (.int (2 : Int32)), .val (.ref a1)] [(.int (2 : Int32)), (.int (4 : Int32)), (.int (0 : Int32)), (.ref a1), (.int (0 : Int32)), (.ref ao)])) _
    exact kQ
  show OwnDone p e below _ (T1.setTop (mkF m 25 #[.val (.ref ao), .val (.int (2 : Int32)), .val (.ref a1)] [(.int (2 : Int32)), (.int (4 : Int32)), (.int (0 : Int32)), (.ref a1), (.int (0 : Int32)), (.ref ao)]))
  refine own_callS (y := (⟨"java/lang/Math", "min", "(II)I"⟩ : MethodName)) C P1 (hw _ (List.mem_of_getElem? (i := 149) rfl)) (hw _ (List.mem_of_getElem? (i := 7) rfl)) (hw _ (List.mem_of_getElem? (i := 8) rfl)) (hw _ (List.mem_of_getElem? (i := 9) rfl)) (by decide) (rmmnl l Z a0 hw h1 P1.old) (as := [(.int (4 : Int32)), (.int (2 : Int32))]) (rest := [(.int (0 : Int32)), (.ref a1), (.int (0 : Int32)), (.ref ao)]) pd_10 rfl rfl (wd := 4) rfl rfl dco2_25 all0 (by decide) (by decide) (by decide) (by decide) (fun T3 h3 v3 P3 K3 hQ3 => ?_)
  obtain ⟨rfl, rfl⟩ := hQ3
  show OwnDone p e below _ (T3.setTop (mkF m 28 #[.val (.ref ao), .val (.int (2 : Int32)), .val (.ref a1)] [(.int (2 : Int32)), (.int (0 : Int32)), (.ref a1), (.int (0 : Int32)), (.ref ao)]))
  refine own_acopy (z := (4 : Int32)) (z' := (2 : Int32)) (nn := (2 : Int32)) (us := [(.int x0), (.int x1)]) (wd := 0) (rest := []) C P3 Y2_ao Y1 rfl rfl (by decide) rfl (by decide) (by simp [fits]) (by simp [fits]) (hw _ (List.mem_of_getElem? (i := 150) rfl)) (hw _ (List.mem_of_getElem? (i := 153) rfl)) (hw _ (List.mem_of_getElem? (i := 151) rfl)) (hw _ (List.mem_of_getElem? (i := 152) rfl)) (by decide) (show ((2 : Int32) : Int32).toNatClampNeg ≤ 4 from by decide) rfl rfl rfl ge_a1 rfl rfl dco2_28 (by decide) (by decide) (fun T4 h4 P4 K4 Y4 => ?_)
  have Y5_ao := Y2_ao.keep K4 (ninS ne_ao_a1 nin0)
  show OwnDone p e below _ (T4.setTop (mkF m 31 #[.val (.ref ao), .val (.int (2 : Int32)), .val (.ref a1)] []))
  refine OwnDone.go (A := (T4.setTop (mkF m 32 #[.val (.ref ao), .val (.int (2 : Int32)), .val (.ref a1)] [(.ref a1)]))) (fun tQ kQ => ?_) ?_
  · refine XS.aloadN P4.here hx rfl (hb hby dco2_31) rfl rfl ?_
    show Steps p.tables e below (T4.setTop (mkF m 32 #[.val (.ref ao), .val (.int (2 : Int32)), .val (.ref a1)] [(.ref a1)])) _
    exact kQ
  show OwnDone p e below _ (T4.setTop (mkF m 32 #[.val (.ref ao), .val (.int (2 : Int32)), .val (.ref a1)] [(.ref a1)]))
  refine own_retA C P4 rfl rfl dco2_32 (by decide) (by decide) ⟨_, _, rfl, Y4, ge_a1, N1⟩
theorem dco4_0 : decode jdk_65_method_123_code 0 = .ok (.iload_n 1, 1) := by decide +kernel
theorem dco4_1 : decode jdk_65_method_123_code 1 = .ok (.aload_n 0, 1) := by decide +kernel
theorem dco4_2 : decode jdk_65_method_123_code 2 = .ok (.arraylength, 1) := by decide +kernel
theorem dco4_3 : decode jdk_65_method_123_code 3 = .ok (.if_icmp .ne 11, 3) := by decide +kernel
theorem dco4_6 : decode jdk_65_method_123_code 6 = .ok (.aload_n 0, 1) := by decide +kernel
theorem dco4_7 : decode jdk_65_method_123_code 7 = .ok (.invokevirtual 316, 3) := by decide +kernel
theorem dco4_10 : decode jdk_65_method_123_code 10 = .ok (.checkcast 317, 3) := by decide +kernel
theorem dco4_13 : decode jdk_65_method_123_code 13 = .ok (.areturn, 1) := by decide +kernel
theorem pnco4 : plainName "java/util/Arrays" = true := by first | (simp [plainName, overriddenIn]; done) | decide +kernel
theorem efco4 (m : MethodId) (ao : Addr)  : entryFrame m #[(.ref ao), (.int (4 : Int32))] 3 = mkF m 0 #[.val (.ref ao), .val (.int (4 : Int32)), .unset] [] := by first | (simp [entryFrame, mkF, argsToLocals, Value.category]; done) | rfl
set_option maxRecDepth 65536 in
set_option maxHeartbeats 40000000 in
theorem rmco4 (l : Launch) (Z : State) (a0 : Array Value) (hw : ∀ d ∈ tables_1, d.before a0 Z = true) (ao : Addr) (k : ClassId) (x0 x1 x2 x3 : Int32) (h0 : Heap) (hE : Ext Z.heap h0)  (Ya : OwnAry Z h0 ao k .int [(.int x0), (.int x1), (.int x2), (.int x3)]) (Na : Z.vm.findClass "[I" = some k) :
    OwnMeets l (⟨"java/util/Arrays", "copyOf", "([II)[I"⟩ : MethodName) jdk_65_method_123_code 3 (some (.array .int)) ({ frames := 1, cells := 1, slots := 4, locals := 14 } : Room) Z [] #[(.ref ao), (.int (4 : Int32))] h0 (fun v h => ∃ r k', v = some (.ref r) ∧ OwnAry Z h r k' .int [(.int x0), (.int x1), (.int x2), (.int x3)] ∧ h0.size ≤ r ∧ Z.vm.findClass "[I" = some k') := by
  refine OwnMeets.of (plainFor_of_name pnco4) hE all0 ?_
  intro p e s m below meth c T C P
  have hx := C.1
  have hby := C.2.2.2.2.1
  rw [show entryFrame m #[(.ref ao), (.int (4 : Int32))] 3 = _ from efco4 m ao]
  show OwnDone p e below _ (T.setTop (mkF m 0 #[.val (.ref ao), .val (.int (4 : Int32)), .unset] []))
  refine OwnDone.go (A := (T.setTop (mkF m 3 #[.val (.ref ao), .val (.int (4 : Int32)), .unset] [(.int (4 : Int32)), (.int (4 : Int32))]))) (fun tQ kQ => ?_) ?_
  · refine XS.iloadN P.here hx rfl (hb hby dco4_0) rfl ?_
    show Steps p.tables e below (T.setTop (mkF m 1 #[.val (.ref ao), .val (.int (4 : Int32)), .unset] [(.int (4 : Int32))])) _
    refine XS.aloadN P.here hx rfl (hb hby dco4_1) rfl rfl ?_
    show Steps p.tables e below (T.setTop (mkF m 2 #[.val (.ref ao), .val (.int (4 : Int32)), .unset] [(.ref ao), (.int (4 : Int32))])) _
    refine own_alen C P Ya dco4_2 ?_
    show Steps p.tables e below (T.setTop (mkF m 3 #[.val (.ref ao), .val (.int (4 : Int32)), .unset] [(.int (4 : Int32)), (.int (4 : Int32))])) _
    exact kQ
  show OwnDone p e below _ (T.setTop (mkF m 3 #[.val (.ref ao), .val (.int (4 : Int32)), .unset] [(.int (4 : Int32)), (.int (4 : Int32))]))
  refine OwnDone.go (A := (T.setTop (mkF m 6 #[.val (.ref ao), .val (.int (4 : Int32)), .unset] []))) (fun tQ kQ => XS.icmpNo P.here hx rfl (hb hby dco4_3) rfl (XT.ii_ne_f rfl) kQ) ?_
  show OwnDone p e below _ (T.setTop (mkF m 6 #[.val (.ref ao), .val (.int (4 : Int32)), .unset] []))
  refine OwnDone.go (A := (T.setTop (mkF m 7 #[.val (.ref ao), .val (.int (4 : Int32)), .unset] [(.ref ao)]))) (fun tQ kQ => ?_) ?_
  · refine XS.aloadN P.here hx rfl (hb hby dco4_6) rfl rfl ?_
    show Steps p.tables e below (T.setTop (mkF m 7 #[.val (.ref ao), .val (.int (4 : Int32)), .unset] [(.ref ao)])) _
    exact kQ
  show OwnDone p e below _ (T.setTop (mkF m 7 #[.val (.ref ao), .val (.int (4 : Int32)), .unset] [(.ref ao)]))
  refine own_clone (cap := 4) (wd := 0) (rest := []) C P Ya Na (by simp [fits]) (hw _ (List.mem_of_getElem? (i := 194) rfl)) (hw _ (List.mem_of_getElem? (i := 195) rfl)) (hw _ (List.mem_of_getElem? (i := 199) rfl)) (hw _ (List.mem_of_getElem? (i := 197) rfl)) (hw _ (List.mem_of_getElem? (i := 198) rfl)) (hw _ (List.mem_of_getElem? (i := 200) rfl)) rfl rfl dco4_7 (by decide) (by decide) (Nat.le_refl _) (by decide) (by decide) (fun T1 h1 a1 ga1 la1 P1 K1 Y1 => ?_)
  have ge_a1 : h0.size ≤ a1 := by rw [ga1]; exact P.keep.1
  have ne_ao_a1 : ao ≠ a1 := by rw [ga1]; exact Nat.ne_of_lt Ya.lt
  have Y2_ao := Ya.keep K1 nin0
  show OwnDone p e below _ (T1.setTop (mkF m 10 #[.val (.ref ao), .val (.int (4 : Int32)), .unset] [(.ref a1)]))
  refine own_cast C P1 (hw _ (List.mem_of_getElem? (i := 201) rfl)) (Y1.ins Na) dco4_10 (fun T3 P3 => ?_)
  show OwnDone p e below _ (T3.setTop (mkF m 13 #[.val (.ref ao), .val (.int (4 : Int32)), .unset] [(.ref a1)]))
  refine own_retA C P3 rfl rfl dco4_13 (by decide) (by decide) ⟨_, _, rfl, Y1, ge_a1, Na⟩
theorem dhc2_0 : decode jdk_48_method_9_code 0 = .ok (.iload_n 2, 1) := by decide +kernel
theorem dhc2_1 : decode jdk_48_method_9_code 1 = .ok (.iload_n 3, 1) := by decide +kernel
theorem dhc2_2 : decode jdk_48_method_9_code 2 = .ok (.iadd, 1) := by decide +kernel
theorem dhc2_3 : decode jdk_48_method_9_code 3 = .ok (.istore 4, 2) := by decide +kernel
theorem dhc2_5 : decode jdk_48_method_9_code 5 = .ok (.iload_n 2, 1) := by decide +kernel
theorem dhc2_6 : decode jdk_48_method_9_code 6 = .ok (.istore 5, 2) := by decide +kernel
theorem dhc2_8 : decode jdk_48_method_9_code 8 = .ok (.iload 5, 2) := by decide +kernel
theorem dhc2_10 : decode jdk_48_method_9_code 10 = .ok (.iload 4, 2) := by decide +kernel
theorem dhc2_12 : decode jdk_48_method_9_code 12 = .ok (.if_icmp .ge 19, 3) := by decide +kernel
theorem dhc2_15 : decode jdk_48_method_9_code 15 = .ok (.bipush 31, 2) := by decide +kernel
theorem dhc2_17 : decode jdk_48_method_9_code 17 = .ok (.iload_n 0, 1) := by decide +kernel
theorem dhc2_18 : decode jdk_48_method_9_code 18 = .ok (.imul, 1) := by decide +kernel
theorem dhc2_19 : decode jdk_48_method_9_code 19 = .ok (.aload_n 1, 1) := by decide +kernel
theorem dhc2_20 : decode jdk_48_method_9_code 20 = .ok (.iload 5, 2) := by decide +kernel
theorem dhc2_22 : decode jdk_48_method_9_code 22 = .ok (.iaload, 1) := by decide +kernel
theorem dhc2_23 : decode jdk_48_method_9_code 23 = .ok (.iadd, 1) := by decide +kernel
theorem dhc2_24 : decode jdk_48_method_9_code 24 = .ok (.istore_n 0, 1) := by decide +kernel
theorem dhc2_25 : decode jdk_48_method_9_code 25 = .ok (.iinc 5 1, 3) := by decide +kernel
theorem dhc2_28 : decode jdk_48_method_9_code 28 = .ok (.goto (-20), 3) := by decide +kernel
theorem dhc2_31 : decode jdk_48_method_9_code 31 = .ok (.iload_n 0, 1) := by decide +kernel
theorem dhc2_32 : decode jdk_48_method_9_code 32 = .ok (.ireturn, 1) := by decide +kernel
theorem pnhc2 : plainName "jdk/internal/util/ArraysSupport" = true := by first | (simp [plainName, overriddenIn]; done) | decide +kernel
theorem efhc2 (m : MethodId) (ao : Addr)  : entryFrame m #[(.int (1 : Int32)), (.ref ao), (.int (0 : Int32)), (.int (2 : Int32))] 6 = mkF m 0 #[.val (.int (1 : Int32)), .val (.ref ao), .val (.int (0 : Int32)), .val (.int (2 : Int32)), .unset, .unset] [] := by first | (simp [entryFrame, mkF, argsToLocals, Value.category]; done) | rfl
set_option maxRecDepth 65536 in
set_option maxHeartbeats 40000000 in
theorem rmhc2 (l : Launch) (Z : State) (a0 : Array Value) (hw : ∀ d ∈ tables_1, d.before a0 Z = true) (ao : Addr) (k : ClassId) (x0 x1 : Int32) (h0 : Heap) (hE : Ext Z.heap h0)  (Ya : OwnAry Z h0 ao k .int [(.int x0), (.int x1)]) (Na : Z.vm.findClass "[I" = some k) :
    OwnMeets l (⟨"jdk/internal/util/ArraysSupport", "hashCode", "(I[III)I"⟩ : MethodName) jdk_48_method_9_code 6 (some .int) ({ frames := 0, cells := 0, slots := 0, locals := 0 } : Room) Z [] #[(.int (1 : Int32)), (.ref ao), (.int (0 : Int32)), (.int (2 : Int32))] h0 (fun v h => ∃ r : Int32, v = some (.int r) ∧ h0 = h) := by
  refine OwnMeets.of (plainFor_of_name pnhc2) hE all0 ?_
  intro p e s m below meth c T C P
  have hx := C.1
  have hby := C.2.2.2.2.1
  rw [show entryFrame m #[(.int (1 : Int32)), (.ref ao), (.int (0 : Int32)), (.int (2 : Int32))] 6 = _ from efhc2 m ao]
  show OwnDone p e below _ (T.setTop (mkF m 0 #[.val (.int (1 : Int32)), .val (.ref ao), .val (.int (0 : Int32)), .val (.int (2 : Int32)), .unset, .unset] []))
  refine OwnDone.go (A := (T.setTop (mkF m 12 #[.val (.int (1 : Int32)), .val (.ref ao), .val (.int (0 : Int32)), .val (.int (2 : Int32)), .val (.int (2 : Int32)), .val (.int (0 : Int32))] [(.int (2 : Int32)), (.int (0 : Int32))]))) (fun tQ kQ => ?_) ?_
  · refine XS.iloadN P.here hx rfl (hb hby dhc2_0) rfl ?_
    show Steps p.tables e below (T.setTop (mkF m 1 #[.val (.int (1 : Int32)), .val (.ref ao), .val (.int (0 : Int32)), .val (.int (2 : Int32)), .unset, .unset] [(.int (0 : Int32))])) _
    refine XS.iloadN P.here hx rfl (hb hby dhc2_1) rfl ?_
    show Steps p.tables e below (T.setTop (mkF m 2 #[.val (.int (1 : Int32)), .val (.ref ao), .val (.int (0 : Int32)), .val (.int (2 : Int32)), .unset, .unset] [(.int (2 : Int32)), (.int (0 : Int32))])) _
    refine XS.iadd P.here hx rfl (hb hby dhc2_2) rfl ?_
    show Steps p.tables e below (T.setTop (mkF m 3 #[.val (.int (1 : Int32)), .val (.ref ao), .val (.int (0 : Int32)), .val (.int (2 : Int32)), .unset, .unset] [(.int (2 : Int32))])) _
    refine XS.istore P.here hx rfl (hb hby dhc2_3) rfl (l' := #[.val (.int (1 : Int32)), .val (.ref ao), .val (.int (0 : Int32)), .val (.int (2 : Int32)), .val (.int (2 : Int32)), .unset]) rfl ?_
    show Steps p.tables e below (T.setTop (mkF m 5 #[.val (.int (1 : Int32)), .val (.ref ao), .val (.int (0 : Int32)), .val (.int (2 : Int32)), .val (.int (2 : Int32)), .unset] [])) _
    refine XS.iloadN P.here hx rfl (hb hby dhc2_5) rfl ?_
    show Steps p.tables e below (T.setTop (mkF m 6 #[.val (.int (1 : Int32)), .val (.ref ao), .val (.int (0 : Int32)), .val (.int (2 : Int32)), .val (.int (2 : Int32)), .unset] [(.int (0 : Int32))])) _
    refine XS.istore P.here hx rfl (hb hby dhc2_6) rfl (l' := #[.val (.int (1 : Int32)), .val (.ref ao), .val (.int (0 : Int32)), .val (.int (2 : Int32)), .val (.int (2 : Int32)), .val (.int (0 : Int32))]) rfl ?_
    show Steps p.tables e below (T.setTop (mkF m 8 #[.val (.int (1 : Int32)), .val (.ref ao), .val (.int (0 : Int32)), .val (.int (2 : Int32)), .val (.int (2 : Int32)), .val (.int (0 : Int32))] [])) _
    refine XS.iload P.here hx rfl (hb hby dhc2_8) rfl ?_
    show Steps p.tables e below (T.setTop (mkF m 10 #[.val (.int (1 : Int32)), .val (.ref ao), .val (.int (0 : Int32)), .val (.int (2 : Int32)), .val (.int (2 : Int32)), .val (.int (0 : Int32))] [(.int (0 : Int32))])) _
    refine XS.iload P.here hx rfl (hb hby dhc2_10) rfl ?_
    show Steps p.tables e below (T.setTop (mkF m 12 #[.val (.int (1 : Int32)), .val (.ref ao), .val (.int (0 : Int32)), .val (.int (2 : Int32)), .val (.int (2 : Int32)), .val (.int (0 : Int32))] [(.int (2 : Int32)), (.int (0 : Int32))])) _
    exact kQ
  show OwnDone p e below _ (T.setTop (mkF m 12 #[.val (.int (1 : Int32)), .val (.ref ao), .val (.int (0 : Int32)), .val (.int (2 : Int32)), .val (.int (2 : Int32)), .val (.int (0 : Int32))] [(.int (2 : Int32)), (.int (0 : Int32))]))
  refine OwnDone.go (A := (T.setTop (mkF m 15 #[.val (.int (1 : Int32)), .val (.ref ao), .val (.int (0 : Int32)), .val (.int (2 : Int32)), .val (.int (2 : Int32)), .val (.int (0 : Int32))] []))) (fun tQ kQ => XS.icmpNo P.here hx rfl (hb hby dhc2_12) rfl (XT.ii_ge_f (by decide)) kQ) ?_
  show OwnDone p e below _ (T.setTop (mkF m 15 #[.val (.int (1 : Int32)), .val (.ref ao), .val (.int (0 : Int32)), .val (.int (2 : Int32)), .val (.int (2 : Int32)), .val (.int (0 : Int32))] []))
  refine OwnDone.go (A := (T.setTop (mkF m 12 #[.val (.int ((31 : Int32) + x0)), .val (.ref ao), .val (.int (0 : Int32)), .val (.int (2 : Int32)), .val (.int (2 : Int32)), .val (.int (1 : Int32))] [(.int (2 : Int32)), (.int (1 : Int32))]))) (fun tQ kQ => ?_) ?_
  · refine XS.bipush P.here hx rfl (hb hby dhc2_15) ?_
    show Steps p.tables e below (T.setTop (mkF m 17 #[.val (.int (1 : Int32)), .val (.ref ao), .val (.int (0 : Int32)), .val (.int (2 : Int32)), .val (.int (2 : Int32)), .val (.int (0 : Int32))] [(.int (31 : Int32))])) _
    refine XS.iloadN P.here hx rfl (hb hby dhc2_17) rfl ?_
    show Steps p.tables e below (T.setTop (mkF m 18 #[.val (.int (1 : Int32)), .val (.ref ao), .val (.int (0 : Int32)), .val (.int (2 : Int32)), .val (.int (2 : Int32)), .val (.int (0 : Int32))] [(.int (1 : Int32)), (.int (31 : Int32))])) _
    refine XS.imul P.here hx rfl (hb hby dhc2_18) rfl ?_
    show Steps p.tables e below (T.setTop (mkF m 19 #[.val (.int (1 : Int32)), .val (.ref ao), .val (.int (0 : Int32)), .val (.int (2 : Int32)), .val (.int (2 : Int32)), .val (.int (0 : Int32))] [(.int (31 : Int32))])) _
    refine XS.aloadN P.here hx rfl (hb hby dhc2_19) rfl rfl ?_
    show Steps p.tables e below (T.setTop (mkF m 20 #[.val (.int (1 : Int32)), .val (.ref ao), .val (.int (0 : Int32)), .val (.int (2 : Int32)), .val (.int (2 : Int32)), .val (.int (0 : Int32))] [(.ref ao), (.int (31 : Int32))])) _
    refine XS.iload P.here hx rfl (hb hby dhc2_20) rfl ?_
    show Steps p.tables e below (T.setTop (mkF m 22 #[.val (.int (1 : Int32)), .val (.ref ao), .val (.int (0 : Int32)), .val (.int (2 : Int32)), .val (.int (2 : Int32)), .val (.int (0 : Int32))] [(.int (0 : Int32)), (.ref ao), (.int (31 : Int32))])) _
    refine own_iaload C P Ya (by decide) rfl dhc2_22 ?_
    show Steps p.tables e below (T.setTop (mkF m 23 #[.val (.int (1 : Int32)), .val (.ref ao), .val (.int (0 : Int32)), .val (.int (2 : Int32)), .val (.int (2 : Int32)), .val (.int (0 : Int32))] [(.int x0), (.int (31 : Int32))])) _
    refine XS.iadd P.here hx rfl (hb hby dhc2_23) rfl ?_
    show Steps p.tables e below (T.setTop (mkF m 24 #[.val (.int (1 : Int32)), .val (.ref ao), .val (.int (0 : Int32)), .val (.int (2 : Int32)), .val (.int (2 : Int32)), .val (.int (0 : Int32))] [(.int ((31 : Int32) + x0))])) _
    refine XS.istoreN P.here hx rfl (hb hby dhc2_24) rfl (l' := #[.val (.int ((31 : Int32) + x0)), .val (.ref ao), .val (.int (0 : Int32)), .val (.int (2 : Int32)), .val (.int (2 : Int32)), .val (.int (0 : Int32))]) rfl ?_
    show Steps p.tables e below (T.setTop (mkF m 25 #[.val (.int ((31 : Int32) + x0)), .val (.ref ao), .val (.int (0 : Int32)), .val (.int (2 : Int32)), .val (.int (2 : Int32)), .val (.int (0 : Int32))] [])) _
    refine XS.iinc P.here hx rfl (hb hby dhc2_25) rfl (l' := #[.val (.int ((31 : Int32) + x0)), .val (.ref ao), .val (.int (0 : Int32)), .val (.int (2 : Int32)), .val (.int (2 : Int32)), .val (.int (1 : Int32))]) rfl ?_
    show Steps p.tables e below (T.setTop (mkF m 28 #[.val (.int ((31 : Int32) + x0)), .val (.ref ao), .val (.int (0 : Int32)), .val (.int (2 : Int32)), .val (.int (2 : Int32)), .val (.int (1 : Int32))] [])) _
    refine XS.goto P.here hx rfl (pc0 := 28) (pc' := 8) rfl (hb hby dhc2_28) (by decide) (by decide) ?_
    show Steps p.tables e below (T.setTop (mkF m 8 #[.val (.int ((31 : Int32) + x0)), .val (.ref ao), .val (.int (0 : Int32)), .val (.int (2 : Int32)), .val (.int (2 : Int32)), .val (.int (1 : Int32))] [])) _
    refine XS.iload P.here hx rfl (hb hby dhc2_8) rfl ?_
    show Steps p.tables e below (T.setTop (mkF m 10 #[.val (.int ((31 : Int32) + x0)), .val (.ref ao), .val (.int (0 : Int32)), .val (.int (2 : Int32)), .val (.int (2 : Int32)), .val (.int (1 : Int32))] [(.int (1 : Int32))])) _
    refine XS.iload P.here hx rfl (hb hby dhc2_10) rfl ?_
    show Steps p.tables e below (T.setTop (mkF m 12 #[.val (.int ((31 : Int32) + x0)), .val (.ref ao), .val (.int (0 : Int32)), .val (.int (2 : Int32)), .val (.int (2 : Int32)), .val (.int (1 : Int32))] [(.int (2 : Int32)), (.int (1 : Int32))])) _
    exact kQ
  show OwnDone p e below _ (T.setTop (mkF m 12 #[.val (.int ((31 : Int32) + x0)), .val (.ref ao), .val (.int (0 : Int32)), .val (.int (2 : Int32)), .val (.int (2 : Int32)), .val (.int (1 : Int32))] [(.int (2 : Int32)), (.int (1 : Int32))]))
  refine OwnDone.go (A := (T.setTop (mkF m 15 #[.val (.int ((31 : Int32) + x0)), .val (.ref ao), .val (.int (0 : Int32)), .val (.int (2 : Int32)), .val (.int (2 : Int32)), .val (.int (1 : Int32))] []))) (fun tQ kQ => XS.icmpNo P.here hx rfl (hb hby dhc2_12) rfl (XT.ii_ge_f (by decide)) kQ) ?_
  show OwnDone p e below _ (T.setTop (mkF m 15 #[.val (.int ((31 : Int32) + x0)), .val (.ref ao), .val (.int (0 : Int32)), .val (.int (2 : Int32)), .val (.int (2 : Int32)), .val (.int (1 : Int32))] []))
  refine OwnDone.go (A := (T.setTop (mkF m 12 #[.val (.int (((31 : Int32) * ((31 : Int32) + x0)) + x1)), .val (.ref ao), .val (.int (0 : Int32)), .val (.int (2 : Int32)), .val (.int (2 : Int32)), .val (.int (2 : Int32))] [(.int (2 : Int32)), (.int (2 : Int32))]))) (fun tQ kQ => ?_) ?_
  · refine XS.bipush P.here hx rfl (hb hby dhc2_15) ?_
    show Steps p.tables e below (T.setTop (mkF m 17 #[.val (.int ((31 : Int32) + x0)), .val (.ref ao), .val (.int (0 : Int32)), .val (.int (2 : Int32)), .val (.int (2 : Int32)), .val (.int (1 : Int32))] [(.int (31 : Int32))])) _
    refine XS.iloadN P.here hx rfl (hb hby dhc2_17) rfl ?_
    show Steps p.tables e below (T.setTop (mkF m 18 #[.val (.int ((31 : Int32) + x0)), .val (.ref ao), .val (.int (0 : Int32)), .val (.int (2 : Int32)), .val (.int (2 : Int32)), .val (.int (1 : Int32))] [(.int ((31 : Int32) + x0)), (.int (31 : Int32))])) _
    refine XS.imul P.here hx rfl (hb hby dhc2_18) rfl ?_
    show Steps p.tables e below (T.setTop (mkF m 19 #[.val (.int ((31 : Int32) + x0)), .val (.ref ao), .val (.int (0 : Int32)), .val (.int (2 : Int32)), .val (.int (2 : Int32)), .val (.int (1 : Int32))] [(.int ((31 : Int32) * ((31 : Int32) + x0)))])) _
    refine XS.aloadN P.here hx rfl (hb hby dhc2_19) rfl rfl ?_
    show Steps p.tables e below (T.setTop (mkF m 20 #[.val (.int ((31 : Int32) + x0)), .val (.ref ao), .val (.int (0 : Int32)), .val (.int (2 : Int32)), .val (.int (2 : Int32)), .val (.int (1 : Int32))] [(.ref ao), (.int ((31 : Int32) * ((31 : Int32) + x0)))])) _
    refine XS.iload P.here hx rfl (hb hby dhc2_20) rfl ?_
    show Steps p.tables e below (T.setTop (mkF m 22 #[.val (.int ((31 : Int32) + x0)), .val (.ref ao), .val (.int (0 : Int32)), .val (.int (2 : Int32)), .val (.int (2 : Int32)), .val (.int (1 : Int32))] [(.int (1 : Int32)), (.ref ao), (.int ((31 : Int32) * ((31 : Int32) + x0)))])) _
    refine own_iaload C P Ya (by decide) rfl dhc2_22 ?_
    show Steps p.tables e below (T.setTop (mkF m 23 #[.val (.int ((31 : Int32) + x0)), .val (.ref ao), .val (.int (0 : Int32)), .val (.int (2 : Int32)), .val (.int (2 : Int32)), .val (.int (1 : Int32))] [(.int x1), (.int ((31 : Int32) * ((31 : Int32) + x0)))])) _
    refine XS.iadd P.here hx rfl (hb hby dhc2_23) rfl ?_
    show Steps p.tables e below (T.setTop (mkF m 24 #[.val (.int ((31 : Int32) + x0)), .val (.ref ao), .val (.int (0 : Int32)), .val (.int (2 : Int32)), .val (.int (2 : Int32)), .val (.int (1 : Int32))] [(.int (((31 : Int32) * ((31 : Int32) + x0)) + x1))])) _
    refine XS.istoreN P.here hx rfl (hb hby dhc2_24) rfl (l' := #[.val (.int (((31 : Int32) * ((31 : Int32) + x0)) + x1)), .val (.ref ao), .val (.int (0 : Int32)), .val (.int (2 : Int32)), .val (.int (2 : Int32)), .val (.int (1 : Int32))]) rfl ?_
    show Steps p.tables e below (T.setTop (mkF m 25 #[.val (.int (((31 : Int32) * ((31 : Int32) + x0)) + x1)), .val (.ref ao), .val (.int (0 : Int32)), .val (.int (2 : Int32)), .val (.int (2 : Int32)), .val (.int (1 : Int32))] [])) _
    refine XS.iinc P.here hx rfl (hb hby dhc2_25) rfl (l' := #[.val (.int (((31 : Int32) * ((31 : Int32) + x0)) + x1)), .val (.ref ao), .val (.int (0 : Int32)), .val (.int (2 : Int32)), .val (.int (2 : Int32)), .val (.int (2 : Int32))]) rfl ?_
    show Steps p.tables e below (T.setTop (mkF m 28 #[.val (.int (((31 : Int32) * ((31 : Int32) + x0)) + x1)), .val (.ref ao), .val (.int (0 : Int32)), .val (.int (2 : Int32)), .val (.int (2 : Int32)), .val (.int (2 : Int32))] [])) _
    refine XS.goto P.here hx rfl (pc0 := 28) (pc' := 8) rfl (hb hby dhc2_28) (by decide) (by decide) ?_
    show Steps p.tables e below (T.setTop (mkF m 8 #[.val (.int (((31 : Int32) * ((31 : Int32) + x0)) + x1)), .val (.ref ao), .val (.int (0 : Int32)), .val (.int (2 : Int32)), .val (.int (2 : Int32)), .val (.int (2 : Int32))] [])) _
    refine XS.iload P.here hx rfl (hb hby dhc2_8) rfl ?_
    show Steps p.tables e below (T.setTop (mkF m 10 #[.val (.int (((31 : Int32) * ((31 : Int32) + x0)) + x1)), .val (.ref ao), .val (.int (0 : Int32)), .val (.int (2 : Int32)), .val (.int (2 : Int32)), .val (.int (2 : Int32))] [(.int (2 : Int32))])) _
    refine XS.iload P.here hx rfl (hb hby dhc2_10) rfl ?_
    show Steps p.tables e below (T.setTop (mkF m 12 #[.val (.int (((31 : Int32) * ((31 : Int32) + x0)) + x1)), .val (.ref ao), .val (.int (0 : Int32)), .val (.int (2 : Int32)), .val (.int (2 : Int32)), .val (.int (2 : Int32))] [(.int (2 : Int32)), (.int (2 : Int32))])) _
    exact kQ
  show OwnDone p e below _ (T.setTop (mkF m 12 #[.val (.int (((31 : Int32) * ((31 : Int32) + x0)) + x1)), .val (.ref ao), .val (.int (0 : Int32)), .val (.int (2 : Int32)), .val (.int (2 : Int32)), .val (.int (2 : Int32))] [(.int (2 : Int32)), (.int (2 : Int32))]))
  refine OwnDone.go (A := (T.setTop (mkF m 31 #[.val (.int (((31 : Int32) * ((31 : Int32) + x0)) + x1)), .val (.ref ao), .val (.int (0 : Int32)), .val (.int (2 : Int32)), .val (.int (2 : Int32)), .val (.int (2 : Int32))] []))) (fun tQ kQ => XS.icmpYes P.here hx rfl (pc0 := 12) (pc' := 31) rfl (hb hby dhc2_12) rfl (XT.ii_ge_t (by decide)) (by decide) (by decide) kQ) ?_
  show OwnDone p e below _ (T.setTop (mkF m 31 #[.val (.int (((31 : Int32) * ((31 : Int32) + x0)) + x1)), .val (.ref ao), .val (.int (0 : Int32)), .val (.int (2 : Int32)), .val (.int (2 : Int32)), .val (.int (2 : Int32))] []))
  refine OwnDone.go (A := (T.setTop (mkF m 32 #[.val (.int (((31 : Int32) * ((31 : Int32) + x0)) + x1)), .val (.ref ao), .val (.int (0 : Int32)), .val (.int (2 : Int32)), .val (.int (2 : Int32)), .val (.int (2 : Int32))] [(.int (((31 : Int32) * ((31 : Int32) + x0)) + x1))]))) (fun tQ kQ => ?_) ?_
  · refine XS.iloadN P.here hx rfl (hb hby dhc2_31) rfl ?_
    show Steps p.tables e below (T.setTop (mkF m 32 #[.val (.int (((31 : Int32) * ((31 : Int32) + x0)) + x1)), .val (.ref ao), .val (.int (0 : Int32)), .val (.int (2 : Int32)), .val (.int (2 : Int32)), .val (.int (2 : Int32))] [(.int (((31 : Int32) * ((31 : Int32) + x0)) + x1))])) _
    exact kQ
  show OwnDone p e below _ (T.setTop (mkF m 32 #[.val (.int (((31 : Int32) * ((31 : Int32) + x0)) + x1)), .val (.ref ao), .val (.int (0 : Int32)), .val (.int (2 : Int32)), .val (.int (2 : Int32)), .val (.int (2 : Int32))] [(.int (((31 : Int32) * ((31 : Int32) + x0)) + x1))]))
  refine own_retI C P dhc2_32 (by decide) (by decide) ⟨_, rfl, rfl⟩
theorem dvh2_0 : decode jdk_48_method_4_code 0 = .ok (.iload 4, 2) := by decide +kernel
theorem dvh2_2 : decode jdk_48_method_4_code 2 = .ok (.tableswitch 127 4 10 #[42, 55, 127, 127, 88, 101, 114], 42) := by decide +kernel
theorem dvh2_116 : decode jdk_48_method_4_code 116 = .ok (.iload_n 3, 1) := by decide +kernel
theorem dvh2_117 : decode jdk_48_method_4_code 117 = .ok (.aload_n 0, 1) := by decide +kernel
theorem dvh2_118 : decode jdk_48_method_4_code 118 = .ok (.checkcast 82, 3) := by decide +kernel
theorem dvh2_121 : decode jdk_48_method_4_code 121 = .ok (.iload_n 1, 1) := by decide +kernel
theorem dvh2_122 : decode jdk_48_method_4_code 122 = .ok (.iload_n 2, 1) := by decide +kernel
theorem dvh2_123 : decode jdk_48_method_4_code 123 = .ok (.invokestatic 84, 3) := by decide +kernel
theorem dvh2_126 : decode jdk_48_method_4_code 126 = .ok (.goto 31, 3) := by decide +kernel
theorem dvh2_157 : decode jdk_48_method_4_code 157 = .ok (.ireturn, 1) := by decide +kernel
theorem pnvh2 : plainName "jdk/internal/util/ArraysSupport" = true := by first | (simp [plainName, overriddenIn]; done) | decide +kernel
theorem efvh2 (m : MethodId) (ao : Addr)  : entryFrame m #[(.ref ao), (.int (0 : Int32)), (.int (2 : Int32)), (.int (1 : Int32)), (.int (10 : Int32))] 5 = mkF m 0 #[.val (.ref ao), .val (.int (0 : Int32)), .val (.int (2 : Int32)), .val (.int (1 : Int32)), .val (.int (10 : Int32))] [] := by first | (simp [entryFrame, mkF, argsToLocals, Value.category]; done) | rfl
set_option maxRecDepth 65536 in
set_option maxHeartbeats 40000000 in
theorem rmvh2 (l : Launch) (Z : State) (a0 : Array Value) (hw : ∀ d ∈ tables_1, d.before a0 Z = true) (ao : Addr) (k : ClassId) (x0 x1 : Int32) (h0 : Heap) (hE : Ext Z.heap h0)  (Ya : OwnAry Z h0 ao k .int [(.int x0), (.int x1)]) (Na : Z.vm.findClass "[I" = some k) :
    OwnMeets l (⟨"jdk/internal/util/ArraysSupport", "vectorizedHashCode", "(Ljava/lang/Object;IIII)I"⟩ : MethodName) jdk_48_method_4_code 5 (some .int) ({ frames := 1, cells := 0, slots := 0, locals := 17 } : Room) Z [] #[(.ref ao), (.int (0 : Int32)), (.int (2 : Int32)), (.int (1 : Int32)), (.int (10 : Int32))] h0 (fun v h => ∃ r : Int32, v = some (.int r) ∧ h0 = h) := by
  refine OwnMeets.of (plainFor_of_name pnvh2) hE all0 ?_
  intro p e s m below meth c T C P
  have hx := C.1
  have hby := C.2.2.2.2.1
  rw [show entryFrame m #[(.ref ao), (.int (0 : Int32)), (.int (2 : Int32)), (.int (1 : Int32)), (.int (10 : Int32))] 5 = _ from efvh2 m ao]
  show OwnDone p e below _ (T.setTop (mkF m 0 #[.val (.ref ao), .val (.int (0 : Int32)), .val (.int (2 : Int32)), .val (.int (1 : Int32)), .val (.int (10 : Int32))] []))
  refine OwnDone.go (A := (T.setTop (mkF m 118 #[.val (.ref ao), .val (.int (0 : Int32)), .val (.int (2 : Int32)), .val (.int (1 : Int32)), .val (.int (10 : Int32))] [(.ref ao), (.int (1 : Int32))]))) (fun tQ kQ => ?_) ?_
  · refine XS.iload P.here hx rfl (hb hby dvh2_0) rfl ?_
    show Steps p.tables e below (T.setTop (mkF m 2 #[.val (.ref ao), .val (.int (0 : Int32)), .val (.int (2 : Int32)), .val (.int (1 : Int32)), .val (.int (10 : Int32))] [(.int (10 : Int32))])) _
    refine own_tswIn (k := (10 : Int32)) (off := 114) (pc' := 116) C P dvh2_2 (by decide) rfl (by decide) (by decide) ?_
    show Steps p.tables e below (T.setTop (mkF m 116 #[.val (.ref ao), .val (.int (0 : Int32)), .val (.int (2 : Int32)), .val (.int (1 : Int32)), .val (.int (10 : Int32))] [])) _
    refine XS.iloadN P.here hx rfl (hb hby dvh2_116) rfl ?_
    show Steps p.tables e below (T.setTop (mkF m 117 #[.val (.ref ao), .val (.int (0 : Int32)), .val (.int (2 : Int32)), .val (.int (1 : Int32)), .val (.int (10 : Int32))] [(.int (1 : Int32))])) _
    refine XS.aloadN P.here hx rfl (hb hby dvh2_117) rfl rfl ?_
    show Steps p.tables e below (T.setTop (mkF m 118 #[.val (.ref ao), .val (.int (0 : Int32)), .val (.int (2 : Int32)), .val (.int (1 : Int32)), .val (.int (10 : Int32))] [(.ref ao), (.int (1 : Int32))])) _
    exact kQ
  show OwnDone p e below _ (T.setTop (mkF m 118 #[.val (.ref ao), .val (.int (0 : Int32)), .val (.int (2 : Int32)), .val (.int (1 : Int32)), .val (.int (10 : Int32))] [(.ref ao), (.int (1 : Int32))]))
  refine own_cast C P (hw _ (List.mem_of_getElem? (i := 167) rfl)) (Ya.ins Na) dvh2_118 (fun T1 P1 => ?_)
  show OwnDone p e below _ (T1.setTop (mkF m 121 #[.val (.ref ao), .val (.int (0 : Int32)), .val (.int (2 : Int32)), .val (.int (1 : Int32)), .val (.int (10 : Int32))] [(.ref ao), (.int (1 : Int32))]))
  refine OwnDone.go (A := (T1.setTop (mkF m 123 #[.val (.ref ao), .val (.int (0 : Int32)), .val (.int (2 : Int32)), .val (.int (1 : Int32)), .val (.int (10 : Int32))] [(.int (2 : Int32)), (.int (0 : Int32)), (.ref ao), (.int (1 : Int32))]))) (fun tQ kQ => ?_) ?_
  · refine XS.iloadN P1.here hx rfl (hb hby dvh2_121) rfl ?_
    show Steps p.tables e below (T1.setTop (mkF m 122 #[.val (.ref ao), .val (.int (0 : Int32)), .val (.int (2 : Int32)), .val (.int (1 : Int32)), .val (.int (10 : Int32))] [(.int (0 : Int32)), (.ref ao), (.int (1 : Int32))])) _
    refine XS.iloadN P1.here hx rfl (hb hby dvh2_122) rfl ?_
    show Steps p.tables e below (T1.setTop (mkF m 123 #[.val (.ref ao), .val (.int (0 : Int32)), .val (.int (2 : Int32)), .val (.int (1 : Int32)), .val (.int (10 : Int32))] [(.int (2 : Int32)), (.int (0 : Int32)), (.ref ao), (.int (1 : Int32))])) _
    exact kQ
  show OwnDone p e below _ (T1.setTop (mkF m 123 #[.val (.ref ao), .val (.int (0 : Int32)), .val (.int (2 : Int32)), .val (.int (1 : Int32)), .val (.int (10 : Int32))] [(.int (2 : Int32)), (.int (0 : Int32)), (.ref ao), (.int (1 : Int32))]))
  refine own_callS (y := (⟨"jdk/internal/util/ArraysSupport", "hashCode", "(I[III)I"⟩ : MethodName)) C P1 (hw _ (List.mem_of_getElem? (i := 169) rfl)) (hw _ (List.mem_of_getElem? (i := 170) rfl)) (hw _ (List.mem_of_getElem? (i := 165) rfl)) (hw _ (List.mem_of_getElem? (i := 171) rfl)) (by decide) (rmhc2 l Z a0 hw ao k x0 x1 h0 P1.old Ya Na) (as := [(.int (1 : Int32)), (.ref ao), (.int (0 : Int32)), (.int (2 : Int32))]) (rest := []) pd_11 rfl rfl (wd := 0) rfl rfl dvh2_123 all0 (by decide) (by decide) (by decide) (by decide) (fun T2 h2 v2 P2 K2 hQ2 => ?_)
  obtain ⟨r2, rfl, rfl⟩ := hQ2
  show OwnDone p e below _ (T2.setTop (mkF m 126 #[.val (.ref ao), .val (.int (0 : Int32)), .val (.int (2 : Int32)), .val (.int (1 : Int32)), .val (.int (10 : Int32))] [(.int r2)]))
  refine OwnDone.go (A := (T2.setTop (mkF m 157 #[.val (.ref ao), .val (.int (0 : Int32)), .val (.int (2 : Int32)), .val (.int (1 : Int32)), .val (.int (10 : Int32))] [(.int r2)]))) (fun tQ kQ => ?_) ?_
  · refine XS.goto P2.here hx rfl (pc0 := 126) (pc' := 157) rfl (hb hby dvh2_126) (by decide) (by decide) ?_
    show Steps p.tables e below (T2.setTop (mkF m 157 #[.val (.ref ao), .val (.int (0 : Int32)), .val (.int (2 : Int32)), .val (.int (1 : Int32)), .val (.int (10 : Int32))] [(.int r2)])) _
    exact kQ
  show OwnDone p e below _ (T2.setTop (mkF m 157 #[.val (.ref ao), .val (.int (0 : Int32)), .val (.int (2 : Int32)), .val (.int (1 : Int32)), .val (.int (10 : Int32))] [(.int r2)]))
  refine own_retI C P2 dvh2_157 (by decide) (by decide) ⟨_, rfl, rfl⟩
theorem dah2_0 : decode jdk_65_method_150_code 0 = .ok (.aload_n 0, 1) := by decide +kernel
theorem dah2_1 : decode jdk_65_method_150_code 1 = .ok (.ifnonnull 5, 3) := by decide +kernel
theorem dah2_6 : decode jdk_65_method_150_code 6 = .ok (.aload_n 0, 1) := by decide +kernel
theorem dah2_7 : decode jdk_65_method_150_code 7 = .ok (.arraylength, 1) := by decide +kernel
theorem dah2_8 : decode jdk_65_method_150_code 8 = .ok (.lookupswitch 41 #[(0, 28), (1, 32)], 28) := by decide +kernel
theorem dah2_49 : decode jdk_65_method_150_code 49 = .ok (.aload_n 0, 1) := by decide +kernel
theorem dah2_50 : decode jdk_65_method_150_code 50 = .ok (.iconst 0, 1) := by decide +kernel
theorem dah2_51 : decode jdk_65_method_150_code 51 = .ok (.aload_n 0, 1) := by decide +kernel
theorem dah2_52 : decode jdk_65_method_150_code 52 = .ok (.arraylength, 1) := by decide +kernel
theorem dah2_53 : decode jdk_65_method_150_code 53 = .ok (.iconst 1, 1) := by decide +kernel
theorem dah2_54 : decode jdk_65_method_150_code 54 = .ok (.bipush 10, 2) := by decide +kernel
theorem dah2_56 : decode jdk_65_method_150_code 56 = .ok (.invokestatic 379, 3) := by decide +kernel
theorem dah2_59 : decode jdk_65_method_150_code 59 = .ok (.ireturn, 1) := by decide +kernel
theorem pnah2 : plainName "java/util/Arrays" = true := by first | (simp [plainName, overriddenIn]; done) | decide +kernel
theorem efah2 (m : MethodId) (ao : Addr)  : entryFrame m #[(.ref ao)] 1 = mkF m 0 #[.val (.ref ao)] [] := by first | (simp [entryFrame, mkF, argsToLocals, Value.category]; done) | rfl
set_option maxRecDepth 65536 in
set_option maxHeartbeats 40000000 in
theorem rmah2 (l : Launch) (Z : State) (a0 : Array Value) (hw : ∀ d ∈ tables_1, d.before a0 Z = true) (ao : Addr) (k : ClassId) (x0 x1 : Int32) (h0 : Heap) (hE : Ext Z.heap h0)  (Ya : OwnAry Z h0 ao k .int [(.int x0), (.int x1)]) (Na : Z.vm.findClass "[I" = some k) :
    OwnMeets l (⟨"java/util/Arrays", "hashCode", "([I)I"⟩ : MethodName) jdk_65_method_150_code 1 (some .int) ({ frames := 2, cells := 0, slots := 0, locals := 33 } : Room) Z [] #[(.ref ao)] h0 (fun v h => ∃ r : Int32, v = some (.int r) ∧ h0 = h) := by
  refine OwnMeets.of (plainFor_of_name pnah2) hE all0 ?_
  intro p e s m below meth c T C P
  have hx := C.1
  have hby := C.2.2.2.2.1
  rw [show entryFrame m #[(.ref ao)] 1 = _ from efah2 m ao]
  show OwnDone p e below _ (T.setTop (mkF m 0 #[.val (.ref ao)] []))
  refine OwnDone.go (A := (T.setTop (mkF m 1 #[.val (.ref ao)] [(.ref ao)]))) (fun tQ kQ => ?_) ?_
  · refine XS.aloadN P.here hx rfl (hb hby dah2_0) rfl rfl ?_
    show Steps p.tables e below (T.setTop (mkF m 1 #[.val (.ref ao)] [(.ref ao)])) _
    exact kQ
  show OwnDone p e below _ (T.setTop (mkF m 1 #[.val (.ref ao)] [(.ref ao)]))
  refine OwnDone.go (A := (T.setTop (mkF m 6 #[.val (.ref ao)] []))) (fun tQ kQ => XT.ifnonnullYes P.here hx rfl (pc0 := 1) (pc' := 6) rfl (hb hby dah2_1) rfl (by decide) (by decide) kQ) ?_
  show OwnDone p e below _ (T.setTop (mkF m 6 #[.val (.ref ao)] []))
  refine OwnDone.go (A := (T.setTop (mkF m 56 #[.val (.ref ao)] [(.int (10 : Int32)), (.int (1 : Int32)), (.int (2 : Int32)), (.int (0 : Int32)), (.ref ao)]))) (fun tQ kQ => ?_) ?_
  · refine XS.aloadN P.here hx rfl (hb hby dah2_6) rfl rfl ?_
    show Steps p.tables e below (T.setTop (mkF m 7 #[.val (.ref ao)] [(.ref ao)])) _
    refine own_alen C P Ya dah2_7 ?_
    show Steps p.tables e below (T.setTop (mkF m 8 #[.val (.ref ao)] [(.int (2 : Int32))])) _
    refine own_lswMiss (k := (2 : Int32)) (pc' := 49) C P dah2_8 (by decide) (by decide) (by decide) (by decide) ?_
    show Steps p.tables e below (T.setTop (mkF m 49 #[.val (.ref ao)] [])) _
    refine XS.aloadN P.here hx rfl (hb hby dah2_49) rfl rfl ?_
    show Steps p.tables e below (T.setTop (mkF m 50 #[.val (.ref ao)] [(.ref ao)])) _
    refine XS.iconst P.here hx rfl (hb hby dah2_50) ?_
    show Steps p.tables e below (T.setTop (mkF m 51 #[.val (.ref ao)] [(.int (0 : Int32)), (.ref ao)])) _
    refine XS.aloadN P.here hx rfl (hb hby dah2_51) rfl rfl ?_
    show Steps p.tables e below (T.setTop (mkF m 52 #[.val (.ref ao)] [(.ref ao), (.int (0 : Int32)), (.ref ao)])) _
    refine own_alen C P Ya dah2_52 ?_
    show Steps p.tables e below (T.setTop (mkF m 53 #[.val (.ref ao)] [(.int (2 : Int32)), (.int (0 : Int32)), (.ref ao)])) _
    refine XS.iconst P.here hx rfl (hb hby dah2_53) ?_
    show Steps p.tables e below (T.setTop (mkF m 54 #[.val (.ref ao)] [(.int (1 : Int32)), (.int (2 : Int32)), (.int (0 : Int32)), (.ref ao)])) _
    refine XS.bipush P.here hx rfl (hb hby dah2_54) ?_
    show Steps p.tables e below (T.setTop (mkF m 56 #[.val (.ref ao)] [(.int (10 : Int32)), (.int (1 : Int32)), (.int (2 : Int32)), (.int (0 : Int32)), (.ref ao)])) _
    exact kQ
  show OwnDone p e below _ (T.setTop (mkF m 56 #[.val (.ref ao)] [(.int (10 : Int32)), (.int (1 : Int32)), (.int (2 : Int32)), (.int (0 : Int32)), (.ref ao)]))
  refine own_callS (y := (⟨"jdk/internal/util/ArraysSupport", "vectorizedHashCode", "(Ljava/lang/Object;IIII)I"⟩ : MethodName)) C P (hw _ (List.mem_of_getElem? (i := 163) rfl)) (hw _ (List.mem_of_getElem? (i := 164) rfl)) (hw _ (List.mem_of_getElem? (i := 165) rfl)) (hw _ (List.mem_of_getElem? (i := 166) rfl)) (by decide) (rmvh2 l Z a0 hw ao k x0 x1 h0 P.old Ya Na) (as := [(.ref ao), (.int (0 : Int32)), (.int (2 : Int32)), (.int (1 : Int32)), (.int (10 : Int32))]) (rest := []) pd_12 rfl rfl (wd := 0) rfl rfl dah2_56 all0 (by decide) (by decide) (by decide) (by decide) (fun T1 h1 v1 P1 K1 hQ1 => ?_)
  obtain ⟨r1, rfl, rfl⟩ := hQ1
  show OwnDone p e below _ (T1.setTop (mkF m 59 #[.val (.ref ao)] [(.int r1)]))
  refine own_retI C P1 dah2_59 (by decide) (by decide) ⟨_, rfl, rfl⟩
theorem dhc4_0 : decode jdk_48_method_9_code 0 = .ok (.iload_n 2, 1) := by decide +kernel
theorem dhc4_1 : decode jdk_48_method_9_code 1 = .ok (.iload_n 3, 1) := by decide +kernel
theorem dhc4_2 : decode jdk_48_method_9_code 2 = .ok (.iadd, 1) := by decide +kernel
theorem dhc4_3 : decode jdk_48_method_9_code 3 = .ok (.istore 4, 2) := by decide +kernel
theorem dhc4_5 : decode jdk_48_method_9_code 5 = .ok (.iload_n 2, 1) := by decide +kernel
theorem dhc4_6 : decode jdk_48_method_9_code 6 = .ok (.istore 5, 2) := by decide +kernel
theorem dhc4_8 : decode jdk_48_method_9_code 8 = .ok (.iload 5, 2) := by decide +kernel
theorem dhc4_10 : decode jdk_48_method_9_code 10 = .ok (.iload 4, 2) := by decide +kernel
theorem dhc4_12 : decode jdk_48_method_9_code 12 = .ok (.if_icmp .ge 19, 3) := by decide +kernel
theorem dhc4_15 : decode jdk_48_method_9_code 15 = .ok (.bipush 31, 2) := by decide +kernel
theorem dhc4_17 : decode jdk_48_method_9_code 17 = .ok (.iload_n 0, 1) := by decide +kernel
theorem dhc4_18 : decode jdk_48_method_9_code 18 = .ok (.imul, 1) := by decide +kernel
theorem dhc4_19 : decode jdk_48_method_9_code 19 = .ok (.aload_n 1, 1) := by decide +kernel
theorem dhc4_20 : decode jdk_48_method_9_code 20 = .ok (.iload 5, 2) := by decide +kernel
theorem dhc4_22 : decode jdk_48_method_9_code 22 = .ok (.iaload, 1) := by decide +kernel
theorem dhc4_23 : decode jdk_48_method_9_code 23 = .ok (.iadd, 1) := by decide +kernel
theorem dhc4_24 : decode jdk_48_method_9_code 24 = .ok (.istore_n 0, 1) := by decide +kernel
theorem dhc4_25 : decode jdk_48_method_9_code 25 = .ok (.iinc 5 1, 3) := by decide +kernel
theorem dhc4_28 : decode jdk_48_method_9_code 28 = .ok (.goto (-20), 3) := by decide +kernel
theorem dhc4_31 : decode jdk_48_method_9_code 31 = .ok (.iload_n 0, 1) := by decide +kernel
theorem dhc4_32 : decode jdk_48_method_9_code 32 = .ok (.ireturn, 1) := by decide +kernel
theorem pnhc4 : plainName "jdk/internal/util/ArraysSupport" = true := by first | (simp [plainName, overriddenIn]; done) | decide +kernel
theorem efhc4 (m : MethodId) (ao : Addr)  : entryFrame m #[(.int (1 : Int32)), (.ref ao), (.int (0 : Int32)), (.int (4 : Int32))] 6 = mkF m 0 #[.val (.int (1 : Int32)), .val (.ref ao), .val (.int (0 : Int32)), .val (.int (4 : Int32)), .unset, .unset] [] := by first | (simp [entryFrame, mkF, argsToLocals, Value.category]; done) | rfl
set_option maxRecDepth 65536 in
set_option maxHeartbeats 40000000 in
theorem rmhc4 (l : Launch) (Z : State) (a0 : Array Value) (hw : ∀ d ∈ tables_1, d.before a0 Z = true) (ao : Addr) (k : ClassId) (x0 x1 x2 x3 : Int32) (h0 : Heap) (hE : Ext Z.heap h0)  (Ya : OwnAry Z h0 ao k .int [(.int x0), (.int x1), (.int x2), (.int x3)]) (Na : Z.vm.findClass "[I" = some k) :
    OwnMeets l (⟨"jdk/internal/util/ArraysSupport", "hashCode", "(I[III)I"⟩ : MethodName) jdk_48_method_9_code 6 (some .int) ({ frames := 0, cells := 0, slots := 0, locals := 0 } : Room) Z [] #[(.int (1 : Int32)), (.ref ao), (.int (0 : Int32)), (.int (4 : Int32))] h0 (fun v h => ∃ r : Int32, v = some (.int r) ∧ h0 = h) := by
  refine OwnMeets.of (plainFor_of_name pnhc4) hE all0 ?_
  intro p e s m below meth c T C P
  have hx := C.1
  have hby := C.2.2.2.2.1
  rw [show entryFrame m #[(.int (1 : Int32)), (.ref ao), (.int (0 : Int32)), (.int (4 : Int32))] 6 = _ from efhc4 m ao]
  show OwnDone p e below _ (T.setTop (mkF m 0 #[.val (.int (1 : Int32)), .val (.ref ao), .val (.int (0 : Int32)), .val (.int (4 : Int32)), .unset, .unset] []))
  refine OwnDone.go (A := (T.setTop (mkF m 12 #[.val (.int (1 : Int32)), .val (.ref ao), .val (.int (0 : Int32)), .val (.int (4 : Int32)), .val (.int (4 : Int32)), .val (.int (0 : Int32))] [(.int (4 : Int32)), (.int (0 : Int32))]))) (fun tQ kQ => ?_) ?_
  · refine XS.iloadN P.here hx rfl (hb hby dhc4_0) rfl ?_
    show Steps p.tables e below (T.setTop (mkF m 1 #[.val (.int (1 : Int32)), .val (.ref ao), .val (.int (0 : Int32)), .val (.int (4 : Int32)), .unset, .unset] [(.int (0 : Int32))])) _
    refine XS.iloadN P.here hx rfl (hb hby dhc4_1) rfl ?_
    show Steps p.tables e below (T.setTop (mkF m 2 #[.val (.int (1 : Int32)), .val (.ref ao), .val (.int (0 : Int32)), .val (.int (4 : Int32)), .unset, .unset] [(.int (4 : Int32)), (.int (0 : Int32))])) _
    refine XS.iadd P.here hx rfl (hb hby dhc4_2) rfl ?_
    show Steps p.tables e below (T.setTop (mkF m 3 #[.val (.int (1 : Int32)), .val (.ref ao), .val (.int (0 : Int32)), .val (.int (4 : Int32)), .unset, .unset] [(.int (4 : Int32))])) _
    refine XS.istore P.here hx rfl (hb hby dhc4_3) rfl (l' := #[.val (.int (1 : Int32)), .val (.ref ao), .val (.int (0 : Int32)), .val (.int (4 : Int32)), .val (.int (4 : Int32)), .unset]) rfl ?_
    show Steps p.tables e below (T.setTop (mkF m 5 #[.val (.int (1 : Int32)), .val (.ref ao), .val (.int (0 : Int32)), .val (.int (4 : Int32)), .val (.int (4 : Int32)), .unset] [])) _
    refine XS.iloadN P.here hx rfl (hb hby dhc4_5) rfl ?_
    show Steps p.tables e below (T.setTop (mkF m 6 #[.val (.int (1 : Int32)), .val (.ref ao), .val (.int (0 : Int32)), .val (.int (4 : Int32)), .val (.int (4 : Int32)), .unset] [(.int (0 : Int32))])) _
    refine XS.istore P.here hx rfl (hb hby dhc4_6) rfl (l' := #[.val (.int (1 : Int32)), .val (.ref ao), .val (.int (0 : Int32)), .val (.int (4 : Int32)), .val (.int (4 : Int32)), .val (.int (0 : Int32))]) rfl ?_
    show Steps p.tables e below (T.setTop (mkF m 8 #[.val (.int (1 : Int32)), .val (.ref ao), .val (.int (0 : Int32)), .val (.int (4 : Int32)), .val (.int (4 : Int32)), .val (.int (0 : Int32))] [])) _
    refine XS.iload P.here hx rfl (hb hby dhc4_8) rfl ?_
    show Steps p.tables e below (T.setTop (mkF m 10 #[.val (.int (1 : Int32)), .val (.ref ao), .val (.int (0 : Int32)), .val (.int (4 : Int32)), .val (.int (4 : Int32)), .val (.int (0 : Int32))] [(.int (0 : Int32))])) _
    refine XS.iload P.here hx rfl (hb hby dhc4_10) rfl ?_
    show Steps p.tables e below (T.setTop (mkF m 12 #[.val (.int (1 : Int32)), .val (.ref ao), .val (.int (0 : Int32)), .val (.int (4 : Int32)), .val (.int (4 : Int32)), .val (.int (0 : Int32))] [(.int (4 : Int32)), (.int (0 : Int32))])) _
    exact kQ
  show OwnDone p e below _ (T.setTop (mkF m 12 #[.val (.int (1 : Int32)), .val (.ref ao), .val (.int (0 : Int32)), .val (.int (4 : Int32)), .val (.int (4 : Int32)), .val (.int (0 : Int32))] [(.int (4 : Int32)), (.int (0 : Int32))]))
  refine OwnDone.go (A := (T.setTop (mkF m 15 #[.val (.int (1 : Int32)), .val (.ref ao), .val (.int (0 : Int32)), .val (.int (4 : Int32)), .val (.int (4 : Int32)), .val (.int (0 : Int32))] []))) (fun tQ kQ => XS.icmpNo P.here hx rfl (hb hby dhc4_12) rfl (XT.ii_ge_f (by decide)) kQ) ?_
  show OwnDone p e below _ (T.setTop (mkF m 15 #[.val (.int (1 : Int32)), .val (.ref ao), .val (.int (0 : Int32)), .val (.int (4 : Int32)), .val (.int (4 : Int32)), .val (.int (0 : Int32))] []))
  refine OwnDone.go (A := (T.setTop (mkF m 12 #[.val (.int ((31 : Int32) + x0)), .val (.ref ao), .val (.int (0 : Int32)), .val (.int (4 : Int32)), .val (.int (4 : Int32)), .val (.int (1 : Int32))] [(.int (4 : Int32)), (.int (1 : Int32))]))) (fun tQ kQ => ?_) ?_
  · refine XS.bipush P.here hx rfl (hb hby dhc4_15) ?_
    show Steps p.tables e below (T.setTop (mkF m 17 #[.val (.int (1 : Int32)), .val (.ref ao), .val (.int (0 : Int32)), .val (.int (4 : Int32)), .val (.int (4 : Int32)), .val (.int (0 : Int32))] [(.int (31 : Int32))])) _
    refine XS.iloadN P.here hx rfl (hb hby dhc4_17) rfl ?_
    show Steps p.tables e below (T.setTop (mkF m 18 #[.val (.int (1 : Int32)), .val (.ref ao), .val (.int (0 : Int32)), .val (.int (4 : Int32)), .val (.int (4 : Int32)), .val (.int (0 : Int32))] [(.int (1 : Int32)), (.int (31 : Int32))])) _
    refine XS.imul P.here hx rfl (hb hby dhc4_18) rfl ?_
    show Steps p.tables e below (T.setTop (mkF m 19 #[.val (.int (1 : Int32)), .val (.ref ao), .val (.int (0 : Int32)), .val (.int (4 : Int32)), .val (.int (4 : Int32)), .val (.int (0 : Int32))] [(.int (31 : Int32))])) _
    refine XS.aloadN P.here hx rfl (hb hby dhc4_19) rfl rfl ?_
    show Steps p.tables e below (T.setTop (mkF m 20 #[.val (.int (1 : Int32)), .val (.ref ao), .val (.int (0 : Int32)), .val (.int (4 : Int32)), .val (.int (4 : Int32)), .val (.int (0 : Int32))] [(.ref ao), (.int (31 : Int32))])) _
    refine XS.iload P.here hx rfl (hb hby dhc4_20) rfl ?_
    show Steps p.tables e below (T.setTop (mkF m 22 #[.val (.int (1 : Int32)), .val (.ref ao), .val (.int (0 : Int32)), .val (.int (4 : Int32)), .val (.int (4 : Int32)), .val (.int (0 : Int32))] [(.int (0 : Int32)), (.ref ao), (.int (31 : Int32))])) _
    refine own_iaload C P Ya (by decide) rfl dhc4_22 ?_
    show Steps p.tables e below (T.setTop (mkF m 23 #[.val (.int (1 : Int32)), .val (.ref ao), .val (.int (0 : Int32)), .val (.int (4 : Int32)), .val (.int (4 : Int32)), .val (.int (0 : Int32))] [(.int x0), (.int (31 : Int32))])) _
    refine XS.iadd P.here hx rfl (hb hby dhc4_23) rfl ?_
    show Steps p.tables e below (T.setTop (mkF m 24 #[.val (.int (1 : Int32)), .val (.ref ao), .val (.int (0 : Int32)), .val (.int (4 : Int32)), .val (.int (4 : Int32)), .val (.int (0 : Int32))] [(.int ((31 : Int32) + x0))])) _
    refine XS.istoreN P.here hx rfl (hb hby dhc4_24) rfl (l' := #[.val (.int ((31 : Int32) + x0)), .val (.ref ao), .val (.int (0 : Int32)), .val (.int (4 : Int32)), .val (.int (4 : Int32)), .val (.int (0 : Int32))]) rfl ?_
    show Steps p.tables e below (T.setTop (mkF m 25 #[.val (.int ((31 : Int32) + x0)), .val (.ref ao), .val (.int (0 : Int32)), .val (.int (4 : Int32)), .val (.int (4 : Int32)), .val (.int (0 : Int32))] [])) _
    refine XS.iinc P.here hx rfl (hb hby dhc4_25) rfl (l' := #[.val (.int ((31 : Int32) + x0)), .val (.ref ao), .val (.int (0 : Int32)), .val (.int (4 : Int32)), .val (.int (4 : Int32)), .val (.int (1 : Int32))]) rfl ?_
    show Steps p.tables e below (T.setTop (mkF m 28 #[.val (.int ((31 : Int32) + x0)), .val (.ref ao), .val (.int (0 : Int32)), .val (.int (4 : Int32)), .val (.int (4 : Int32)), .val (.int (1 : Int32))] [])) _
    refine XS.goto P.here hx rfl (pc0 := 28) (pc' := 8) rfl (hb hby dhc4_28) (by decide) (by decide) ?_
    show Steps p.tables e below (T.setTop (mkF m 8 #[.val (.int ((31 : Int32) + x0)), .val (.ref ao), .val (.int (0 : Int32)), .val (.int (4 : Int32)), .val (.int (4 : Int32)), .val (.int (1 : Int32))] [])) _
    refine XS.iload P.here hx rfl (hb hby dhc4_8) rfl ?_
    show Steps p.tables e below (T.setTop (mkF m 10 #[.val (.int ((31 : Int32) + x0)), .val (.ref ao), .val (.int (0 : Int32)), .val (.int (4 : Int32)), .val (.int (4 : Int32)), .val (.int (1 : Int32))] [(.int (1 : Int32))])) _
    refine XS.iload P.here hx rfl (hb hby dhc4_10) rfl ?_
    show Steps p.tables e below (T.setTop (mkF m 12 #[.val (.int ((31 : Int32) + x0)), .val (.ref ao), .val (.int (0 : Int32)), .val (.int (4 : Int32)), .val (.int (4 : Int32)), .val (.int (1 : Int32))] [(.int (4 : Int32)), (.int (1 : Int32))])) _
    exact kQ
  show OwnDone p e below _ (T.setTop (mkF m 12 #[.val (.int ((31 : Int32) + x0)), .val (.ref ao), .val (.int (0 : Int32)), .val (.int (4 : Int32)), .val (.int (4 : Int32)), .val (.int (1 : Int32))] [(.int (4 : Int32)), (.int (1 : Int32))]))
  refine OwnDone.go (A := (T.setTop (mkF m 15 #[.val (.int ((31 : Int32) + x0)), .val (.ref ao), .val (.int (0 : Int32)), .val (.int (4 : Int32)), .val (.int (4 : Int32)), .val (.int (1 : Int32))] []))) (fun tQ kQ => XS.icmpNo P.here hx rfl (hb hby dhc4_12) rfl (XT.ii_ge_f (by decide)) kQ) ?_
  show OwnDone p e below _ (T.setTop (mkF m 15 #[.val (.int ((31 : Int32) + x0)), .val (.ref ao), .val (.int (0 : Int32)), .val (.int (4 : Int32)), .val (.int (4 : Int32)), .val (.int (1 : Int32))] []))
  refine OwnDone.go (A := (T.setTop (mkF m 12 #[.val (.int (((31 : Int32) * ((31 : Int32) + x0)) + x1)), .val (.ref ao), .val (.int (0 : Int32)), .val (.int (4 : Int32)), .val (.int (4 : Int32)), .val (.int (2 : Int32))] [(.int (4 : Int32)), (.int (2 : Int32))]))) (fun tQ kQ => ?_) ?_
  · refine XS.bipush P.here hx rfl (hb hby dhc4_15) ?_
    show Steps p.tables e below (T.setTop (mkF m 17 #[.val (.int ((31 : Int32) + x0)), .val (.ref ao), .val (.int (0 : Int32)), .val (.int (4 : Int32)), .val (.int (4 : Int32)), .val (.int (1 : Int32))] [(.int (31 : Int32))])) _
    refine XS.iloadN P.here hx rfl (hb hby dhc4_17) rfl ?_
    show Steps p.tables e below (T.setTop (mkF m 18 #[.val (.int ((31 : Int32) + x0)), .val (.ref ao), .val (.int (0 : Int32)), .val (.int (4 : Int32)), .val (.int (4 : Int32)), .val (.int (1 : Int32))] [(.int ((31 : Int32) + x0)), (.int (31 : Int32))])) _
    refine XS.imul P.here hx rfl (hb hby dhc4_18) rfl ?_
    show Steps p.tables e below (T.setTop (mkF m 19 #[.val (.int ((31 : Int32) + x0)), .val (.ref ao), .val (.int (0 : Int32)), .val (.int (4 : Int32)), .val (.int (4 : Int32)), .val (.int (1 : Int32))] [(.int ((31 : Int32) * ((31 : Int32) + x0)))])) _
    refine XS.aloadN P.here hx rfl (hb hby dhc4_19) rfl rfl ?_
    show Steps p.tables e below (T.setTop (mkF m 20 #[.val (.int ((31 : Int32) + x0)), .val (.ref ao), .val (.int (0 : Int32)), .val (.int (4 : Int32)), .val (.int (4 : Int32)), .val (.int (1 : Int32))] [(.ref ao), (.int ((31 : Int32) * ((31 : Int32) + x0)))])) _
    refine XS.iload P.here hx rfl (hb hby dhc4_20) rfl ?_
    show Steps p.tables e below (T.setTop (mkF m 22 #[.val (.int ((31 : Int32) + x0)), .val (.ref ao), .val (.int (0 : Int32)), .val (.int (4 : Int32)), .val (.int (4 : Int32)), .val (.int (1 : Int32))] [(.int (1 : Int32)), (.ref ao), (.int ((31 : Int32) * ((31 : Int32) + x0)))])) _
    refine own_iaload C P Ya (by decide) rfl dhc4_22 ?_
    show Steps p.tables e below (T.setTop (mkF m 23 #[.val (.int ((31 : Int32) + x0)), .val (.ref ao), .val (.int (0 : Int32)), .val (.int (4 : Int32)), .val (.int (4 : Int32)), .val (.int (1 : Int32))] [(.int x1), (.int ((31 : Int32) * ((31 : Int32) + x0)))])) _
    refine XS.iadd P.here hx rfl (hb hby dhc4_23) rfl ?_
    show Steps p.tables e below (T.setTop (mkF m 24 #[.val (.int ((31 : Int32) + x0)), .val (.ref ao), .val (.int (0 : Int32)), .val (.int (4 : Int32)), .val (.int (4 : Int32)), .val (.int (1 : Int32))] [(.int (((31 : Int32) * ((31 : Int32) + x0)) + x1))])) _
    refine XS.istoreN P.here hx rfl (hb hby dhc4_24) rfl (l' := #[.val (.int (((31 : Int32) * ((31 : Int32) + x0)) + x1)), .val (.ref ao), .val (.int (0 : Int32)), .val (.int (4 : Int32)), .val (.int (4 : Int32)), .val (.int (1 : Int32))]) rfl ?_
    show Steps p.tables e below (T.setTop (mkF m 25 #[.val (.int (((31 : Int32) * ((31 : Int32) + x0)) + x1)), .val (.ref ao), .val (.int (0 : Int32)), .val (.int (4 : Int32)), .val (.int (4 : Int32)), .val (.int (1 : Int32))] [])) _
    refine XS.iinc P.here hx rfl (hb hby dhc4_25) rfl (l' := #[.val (.int (((31 : Int32) * ((31 : Int32) + x0)) + x1)), .val (.ref ao), .val (.int (0 : Int32)), .val (.int (4 : Int32)), .val (.int (4 : Int32)), .val (.int (2 : Int32))]) rfl ?_
    show Steps p.tables e below (T.setTop (mkF m 28 #[.val (.int (((31 : Int32) * ((31 : Int32) + x0)) + x1)), .val (.ref ao), .val (.int (0 : Int32)), .val (.int (4 : Int32)), .val (.int (4 : Int32)), .val (.int (2 : Int32))] [])) _
    refine XS.goto P.here hx rfl (pc0 := 28) (pc' := 8) rfl (hb hby dhc4_28) (by decide) (by decide) ?_
    show Steps p.tables e below (T.setTop (mkF m 8 #[.val (.int (((31 : Int32) * ((31 : Int32) + x0)) + x1)), .val (.ref ao), .val (.int (0 : Int32)), .val (.int (4 : Int32)), .val (.int (4 : Int32)), .val (.int (2 : Int32))] [])) _
    refine XS.iload P.here hx rfl (hb hby dhc4_8) rfl ?_
    show Steps p.tables e below (T.setTop (mkF m 10 #[.val (.int (((31 : Int32) * ((31 : Int32) + x0)) + x1)), .val (.ref ao), .val (.int (0 : Int32)), .val (.int (4 : Int32)), .val (.int (4 : Int32)), .val (.int (2 : Int32))] [(.int (2 : Int32))])) _
    refine XS.iload P.here hx rfl (hb hby dhc4_10) rfl ?_
    show Steps p.tables e below (T.setTop (mkF m 12 #[.val (.int (((31 : Int32) * ((31 : Int32) + x0)) + x1)), .val (.ref ao), .val (.int (0 : Int32)), .val (.int (4 : Int32)), .val (.int (4 : Int32)), .val (.int (2 : Int32))] [(.int (4 : Int32)), (.int (2 : Int32))])) _
    exact kQ
  show OwnDone p e below _ (T.setTop (mkF m 12 #[.val (.int (((31 : Int32) * ((31 : Int32) + x0)) + x1)), .val (.ref ao), .val (.int (0 : Int32)), .val (.int (4 : Int32)), .val (.int (4 : Int32)), .val (.int (2 : Int32))] [(.int (4 : Int32)), (.int (2 : Int32))]))
  refine OwnDone.go (A := (T.setTop (mkF m 15 #[.val (.int (((31 : Int32) * ((31 : Int32) + x0)) + x1)), .val (.ref ao), .val (.int (0 : Int32)), .val (.int (4 : Int32)), .val (.int (4 : Int32)), .val (.int (2 : Int32))] []))) (fun tQ kQ => XS.icmpNo P.here hx rfl (hb hby dhc4_12) rfl (XT.ii_ge_f (by decide)) kQ) ?_
  show OwnDone p e below _ (T.setTop (mkF m 15 #[.val (.int (((31 : Int32) * ((31 : Int32) + x0)) + x1)), .val (.ref ao), .val (.int (0 : Int32)), .val (.int (4 : Int32)), .val (.int (4 : Int32)), .val (.int (2 : Int32))] []))
  refine OwnDone.go (A := (T.setTop (mkF m 12 #[.val (.int (((31 : Int32) * (((31 : Int32) * ((31 : Int32) + x0)) + x1)) + x2)), .val (.ref ao), .val (.int (0 : Int32)), .val (.int (4 : Int32)), .val (.int (4 : Int32)), .val (.int (3 : Int32))] [(.int (4 : Int32)), (.int (3 : Int32))]))) (fun tQ kQ => ?_) ?_
  · refine XS.bipush P.here hx rfl (hb hby dhc4_15) ?_
    show Steps p.tables e below (T.setTop (mkF m 17 #[.val (.int (((31 : Int32) * ((31 : Int32) + x0)) + x1)), .val (.ref ao), .val (.int (0 : Int32)), .val (.int (4 : Int32)), .val (.int (4 : Int32)), .val (.int (2 : Int32))] [(.int (31 : Int32))])) _
    refine XS.iloadN P.here hx rfl (hb hby dhc4_17) rfl ?_
    show Steps p.tables e below (T.setTop (mkF m 18 #[.val (.int (((31 : Int32) * ((31 : Int32) + x0)) + x1)), .val (.ref ao), .val (.int (0 : Int32)), .val (.int (4 : Int32)), .val (.int (4 : Int32)), .val (.int (2 : Int32))] [(.int (((31 : Int32) * ((31 : Int32) + x0)) + x1)), (.int (31 : Int32))])) _
    refine XS.imul P.here hx rfl (hb hby dhc4_18) rfl ?_
    show Steps p.tables e below (T.setTop (mkF m 19 #[.val (.int (((31 : Int32) * ((31 : Int32) + x0)) + x1)), .val (.ref ao), .val (.int (0 : Int32)), .val (.int (4 : Int32)), .val (.int (4 : Int32)), .val (.int (2 : Int32))] [(.int ((31 : Int32) * (((31 : Int32) * ((31 : Int32) + x0)) + x1)))])) _
    refine XS.aloadN P.here hx rfl (hb hby dhc4_19) rfl rfl ?_
    show Steps p.tables e below (T.setTop (mkF m 20 #[.val (.int (((31 : Int32) * ((31 : Int32) + x0)) + x1)), .val (.ref ao), .val (.int (0 : Int32)), .val (.int (4 : Int32)), .val (.int (4 : Int32)), .val (.int (2 : Int32))] [(.ref ao), (.int ((31 : Int32) * (((31 : Int32) * ((31 : Int32) + x0)) + x1)))])) _
    refine XS.iload P.here hx rfl (hb hby dhc4_20) rfl ?_
    show Steps p.tables e below (T.setTop (mkF m 22 #[.val (.int (((31 : Int32) * ((31 : Int32) + x0)) + x1)), .val (.ref ao), .val (.int (0 : Int32)), .val (.int (4 : Int32)), .val (.int (4 : Int32)), .val (.int (2 : Int32))] [(.int (2 : Int32)), (.ref ao), (.int ((31 : Int32) * (((31 : Int32) * ((31 : Int32) + x0)) + x1)))])) _
    refine own_iaload C P Ya (by decide) rfl dhc4_22 ?_
    show Steps p.tables e below (T.setTop (mkF m 23 #[.val (.int (((31 : Int32) * ((31 : Int32) + x0)) + x1)), .val (.ref ao), .val (.int (0 : Int32)), .val (.int (4 : Int32)), .val (.int (4 : Int32)), .val (.int (2 : Int32))] [(.int x2), (.int ((31 : Int32) * (((31 : Int32) * ((31 : Int32) + x0)) + x1)))])) _
    refine XS.iadd P.here hx rfl (hb hby dhc4_23) rfl ?_
    show Steps p.tables e below (T.setTop (mkF m 24 #[.val (.int (((31 : Int32) * ((31 : Int32) + x0)) + x1)), .val (.ref ao), .val (.int (0 : Int32)), .val (.int (4 : Int32)), .val (.int (4 : Int32)), .val (.int (2 : Int32))] [(.int (((31 : Int32) * (((31 : Int32) * ((31 : Int32) + x0)) + x1)) + x2))])) _
    refine XS.istoreN P.here hx rfl (hb hby dhc4_24) rfl (l' := #[.val (.int (((31 : Int32) * (((31 : Int32) * ((31 : Int32) + x0)) + x1)) + x2)), .val (.ref ao), .val (.int (0 : Int32)), .val (.int (4 : Int32)), .val (.int (4 : Int32)), .val (.int (2 : Int32))]) rfl ?_
    show Steps p.tables e below (T.setTop (mkF m 25 #[.val (.int (((31 : Int32) * (((31 : Int32) * ((31 : Int32) + x0)) + x1)) + x2)), .val (.ref ao), .val (.int (0 : Int32)), .val (.int (4 : Int32)), .val (.int (4 : Int32)), .val (.int (2 : Int32))] [])) _
    refine XS.iinc P.here hx rfl (hb hby dhc4_25) rfl (l' := #[.val (.int (((31 : Int32) * (((31 : Int32) * ((31 : Int32) + x0)) + x1)) + x2)), .val (.ref ao), .val (.int (0 : Int32)), .val (.int (4 : Int32)), .val (.int (4 : Int32)), .val (.int (3 : Int32))]) rfl ?_
    show Steps p.tables e below (T.setTop (mkF m 28 #[.val (.int (((31 : Int32) * (((31 : Int32) * ((31 : Int32) + x0)) + x1)) + x2)), .val (.ref ao), .val (.int (0 : Int32)), .val (.int (4 : Int32)), .val (.int (4 : Int32)), .val (.int (3 : Int32))] [])) _
    refine XS.goto P.here hx rfl (pc0 := 28) (pc' := 8) rfl (hb hby dhc4_28) (by decide) (by decide) ?_
    show Steps p.tables e below (T.setTop (mkF m 8 #[.val (.int (((31 : Int32) * (((31 : Int32) * ((31 : Int32) + x0)) + x1)) + x2)), .val (.ref ao), .val (.int (0 : Int32)), .val (.int (4 : Int32)), .val (.int (4 : Int32)), .val (.int (3 : Int32))] [])) _
    refine XS.iload P.here hx rfl (hb hby dhc4_8) rfl ?_
    show Steps p.tables e below (T.setTop (mkF m 10 #[.val (.int (((31 : Int32) * (((31 : Int32) * ((31 : Int32) + x0)) + x1)) + x2)), .val (.ref ao), .val (.int (0 : Int32)), .val (.int (4 : Int32)), .val (.int (4 : Int32)), .val (.int (3 : Int32))] [(.int (3 : Int32))])) _
    refine XS.iload P.here hx rfl (hb hby dhc4_10) rfl ?_
    show Steps p.tables e below (T.setTop (mkF m 12 #[.val (.int (((31 : Int32) * (((31 : Int32) * ((31 : Int32) + x0)) + x1)) + x2)), .val (.ref ao), .val (.int (0 : Int32)), .val (.int (4 : Int32)), .val (.int (4 : Int32)), .val (.int (3 : Int32))] [(.int (4 : Int32)), (.int (3 : Int32))])) _
    exact kQ
  show OwnDone p e below _ (T.setTop (mkF m 12 #[.val (.int (((31 : Int32) * (((31 : Int32) * ((31 : Int32) + x0)) + x1)) + x2)), .val (.ref ao), .val (.int (0 : Int32)), .val (.int (4 : Int32)), .val (.int (4 : Int32)), .val (.int (3 : Int32))] [(.int (4 : Int32)), (.int (3 : Int32))]))
  refine OwnDone.go (A := (T.setTop (mkF m 15 #[.val (.int (((31 : Int32) * (((31 : Int32) * ((31 : Int32) + x0)) + x1)) + x2)), .val (.ref ao), .val (.int (0 : Int32)), .val (.int (4 : Int32)), .val (.int (4 : Int32)), .val (.int (3 : Int32))] []))) (fun tQ kQ => XS.icmpNo P.here hx rfl (hb hby dhc4_12) rfl (XT.ii_ge_f (by decide)) kQ) ?_
  show OwnDone p e below _ (T.setTop (mkF m 15 #[.val (.int (((31 : Int32) * (((31 : Int32) * ((31 : Int32) + x0)) + x1)) + x2)), .val (.ref ao), .val (.int (0 : Int32)), .val (.int (4 : Int32)), .val (.int (4 : Int32)), .val (.int (3 : Int32))] []))
  refine OwnDone.go (A := (T.setTop (mkF m 12 #[.val (.int (((31 : Int32) * (((31 : Int32) * (((31 : Int32) * ((31 : Int32) + x0)) + x1)) + x2)) + x3)), .val (.ref ao), .val (.int (0 : Int32)), .val (.int (4 : Int32)), .val (.int (4 : Int32)), .val (.int (4 : Int32))] [(.int (4 : Int32)), (.int (4 : Int32))]))) (fun tQ kQ => ?_) ?_
  · refine XS.bipush P.here hx rfl (hb hby dhc4_15) ?_
    show Steps p.tables e below (T.setTop (mkF m 17 #[.val (.int (((31 : Int32) * (((31 : Int32) * ((31 : Int32) + x0)) + x1)) + x2)), .val (.ref ao), .val (.int (0 : Int32)), .val (.int (4 : Int32)), .val (.int (4 : Int32)), .val (.int (3 : Int32))] [(.int (31 : Int32))])) _
    refine XS.iloadN P.here hx rfl (hb hby dhc4_17) rfl ?_
    show Steps p.tables e below (T.setTop (mkF m 18 #[.val (.int (((31 : Int32) * (((31 : Int32) * ((31 : Int32) + x0)) + x1)) + x2)), .val (.ref ao), .val (.int (0 : Int32)), .val (.int (4 : Int32)), .val (.int (4 : Int32)), .val (.int (3 : Int32))] [(.int (((31 : Int32) * (((31 : Int32) * ((31 : Int32) + x0)) + x1)) + x2)), (.int (31 : Int32))])) _
    refine XS.imul P.here hx rfl (hb hby dhc4_18) rfl ?_
    show Steps p.tables e below (T.setTop (mkF m 19 #[.val (.int (((31 : Int32) * (((31 : Int32) * ((31 : Int32) + x0)) + x1)) + x2)), .val (.ref ao), .val (.int (0 : Int32)), .val (.int (4 : Int32)), .val (.int (4 : Int32)), .val (.int (3 : Int32))] [(.int ((31 : Int32) * (((31 : Int32) * (((31 : Int32) * ((31 : Int32) + x0)) + x1)) + x2)))])) _
    refine XS.aloadN P.here hx rfl (hb hby dhc4_19) rfl rfl ?_
    show Steps p.tables e below (T.setTop (mkF m 20 #[.val (.int (((31 : Int32) * (((31 : Int32) * ((31 : Int32) + x0)) + x1)) + x2)), .val (.ref ao), .val (.int (0 : Int32)), .val (.int (4 : Int32)), .val (.int (4 : Int32)), .val (.int (3 : Int32))] [(.ref ao), (.int ((31 : Int32) * (((31 : Int32) * (((31 : Int32) * ((31 : Int32) + x0)) + x1)) + x2)))])) _
    refine XS.iload P.here hx rfl (hb hby dhc4_20) rfl ?_
    show Steps p.tables e below (T.setTop (mkF m 22 #[.val (.int (((31 : Int32) * (((31 : Int32) * ((31 : Int32) + x0)) + x1)) + x2)), .val (.ref ao), .val (.int (0 : Int32)), .val (.int (4 : Int32)), .val (.int (4 : Int32)), .val (.int (3 : Int32))] [(.int (3 : Int32)), (.ref ao), (.int ((31 : Int32) * (((31 : Int32) * (((31 : Int32) * ((31 : Int32) + x0)) + x1)) + x2)))])) _
    refine own_iaload C P Ya (by decide) rfl dhc4_22 ?_
    show Steps p.tables e below (T.setTop (mkF m 23 #[.val (.int (((31 : Int32) * (((31 : Int32) * ((31 : Int32) + x0)) + x1)) + x2)), .val (.ref ao), .val (.int (0 : Int32)), .val (.int (4 : Int32)), .val (.int (4 : Int32)), .val (.int (3 : Int32))] [(.int x3), (.int ((31 : Int32) * (((31 : Int32) * (((31 : Int32) * ((31 : Int32) + x0)) + x1)) + x2)))])) _
    refine XS.iadd P.here hx rfl (hb hby dhc4_23) rfl ?_
    show Steps p.tables e below (T.setTop (mkF m 24 #[.val (.int (((31 : Int32) * (((31 : Int32) * ((31 : Int32) + x0)) + x1)) + x2)), .val (.ref ao), .val (.int (0 : Int32)), .val (.int (4 : Int32)), .val (.int (4 : Int32)), .val (.int (3 : Int32))] [(.int (((31 : Int32) * (((31 : Int32) * (((31 : Int32) * ((31 : Int32) + x0)) + x1)) + x2)) + x3))])) _
    refine XS.istoreN P.here hx rfl (hb hby dhc4_24) rfl (l' := #[.val (.int (((31 : Int32) * (((31 : Int32) * (((31 : Int32) * ((31 : Int32) + x0)) + x1)) + x2)) + x3)), .val (.ref ao), .val (.int (0 : Int32)), .val (.int (4 : Int32)), .val (.int (4 : Int32)), .val (.int (3 : Int32))]) rfl ?_
    show Steps p.tables e below (T.setTop (mkF m 25 #[.val (.int (((31 : Int32) * (((31 : Int32) * (((31 : Int32) * ((31 : Int32) + x0)) + x1)) + x2)) + x3)), .val (.ref ao), .val (.int (0 : Int32)), .val (.int (4 : Int32)), .val (.int (4 : Int32)), .val (.int (3 : Int32))] [])) _
    refine XS.iinc P.here hx rfl (hb hby dhc4_25) rfl (l' := #[.val (.int (((31 : Int32) * (((31 : Int32) * (((31 : Int32) * ((31 : Int32) + x0)) + x1)) + x2)) + x3)), .val (.ref ao), .val (.int (0 : Int32)), .val (.int (4 : Int32)), .val (.int (4 : Int32)), .val (.int (4 : Int32))]) rfl ?_
    show Steps p.tables e below (T.setTop (mkF m 28 #[.val (.int (((31 : Int32) * (((31 : Int32) * (((31 : Int32) * ((31 : Int32) + x0)) + x1)) + x2)) + x3)), .val (.ref ao), .val (.int (0 : Int32)), .val (.int (4 : Int32)), .val (.int (4 : Int32)), .val (.int (4 : Int32))] [])) _
    refine XS.goto P.here hx rfl (pc0 := 28) (pc' := 8) rfl (hb hby dhc4_28) (by decide) (by decide) ?_
    show Steps p.tables e below (T.setTop (mkF m 8 #[.val (.int (((31 : Int32) * (((31 : Int32) * (((31 : Int32) * ((31 : Int32) + x0)) + x1)) + x2)) + x3)), .val (.ref ao), .val (.int (0 : Int32)), .val (.int (4 : Int32)), .val (.int (4 : Int32)), .val (.int (4 : Int32))] [])) _
    refine XS.iload P.here hx rfl (hb hby dhc4_8) rfl ?_
    show Steps p.tables e below (T.setTop (mkF m 10 #[.val (.int (((31 : Int32) * (((31 : Int32) * (((31 : Int32) * ((31 : Int32) + x0)) + x1)) + x2)) + x3)), .val (.ref ao), .val (.int (0 : Int32)), .val (.int (4 : Int32)), .val (.int (4 : Int32)), .val (.int (4 : Int32))] [(.int (4 : Int32))])) _
    refine XS.iload P.here hx rfl (hb hby dhc4_10) rfl ?_
    show Steps p.tables e below (T.setTop (mkF m 12 #[.val (.int (((31 : Int32) * (((31 : Int32) * (((31 : Int32) * ((31 : Int32) + x0)) + x1)) + x2)) + x3)), .val (.ref ao), .val (.int (0 : Int32)), .val (.int (4 : Int32)), .val (.int (4 : Int32)), .val (.int (4 : Int32))] [(.int (4 : Int32)), (.int (4 : Int32))])) _
    exact kQ
  show OwnDone p e below _ (T.setTop (mkF m 12 #[.val (.int (((31 : Int32) * (((31 : Int32) * (((31 : Int32) * ((31 : Int32) + x0)) + x1)) + x2)) + x3)), .val (.ref ao), .val (.int (0 : Int32)), .val (.int (4 : Int32)), .val (.int (4 : Int32)), .val (.int (4 : Int32))] [(.int (4 : Int32)), (.int (4 : Int32))]))
  refine OwnDone.go (A := (T.setTop (mkF m 31 #[.val (.int (((31 : Int32) * (((31 : Int32) * (((31 : Int32) * ((31 : Int32) + x0)) + x1)) + x2)) + x3)), .val (.ref ao), .val (.int (0 : Int32)), .val (.int (4 : Int32)), .val (.int (4 : Int32)), .val (.int (4 : Int32))] []))) (fun tQ kQ => XS.icmpYes P.here hx rfl (pc0 := 12) (pc' := 31) rfl (hb hby dhc4_12) rfl (XT.ii_ge_t (by decide)) (by decide) (by decide) kQ) ?_
  show OwnDone p e below _ (T.setTop (mkF m 31 #[.val (.int (((31 : Int32) * (((31 : Int32) * (((31 : Int32) * ((31 : Int32) + x0)) + x1)) + x2)) + x3)), .val (.ref ao), .val (.int (0 : Int32)), .val (.int (4 : Int32)), .val (.int (4 : Int32)), .val (.int (4 : Int32))] []))
  refine OwnDone.go (A := (T.setTop (mkF m 32 #[.val (.int (((31 : Int32) * (((31 : Int32) * (((31 : Int32) * ((31 : Int32) + x0)) + x1)) + x2)) + x3)), .val (.ref ao), .val (.int (0 : Int32)), .val (.int (4 : Int32)), .val (.int (4 : Int32)), .val (.int (4 : Int32))] [(.int (((31 : Int32) * (((31 : Int32) * (((31 : Int32) * ((31 : Int32) + x0)) + x1)) + x2)) + x3))]))) (fun tQ kQ => ?_) ?_
  · refine XS.iloadN P.here hx rfl (hb hby dhc4_31) rfl ?_
    show Steps p.tables e below (T.setTop (mkF m 32 #[.val (.int (((31 : Int32) * (((31 : Int32) * (((31 : Int32) * ((31 : Int32) + x0)) + x1)) + x2)) + x3)), .val (.ref ao), .val (.int (0 : Int32)), .val (.int (4 : Int32)), .val (.int (4 : Int32)), .val (.int (4 : Int32))] [(.int (((31 : Int32) * (((31 : Int32) * (((31 : Int32) * ((31 : Int32) + x0)) + x1)) + x2)) + x3))])) _
    exact kQ
  show OwnDone p e below _ (T.setTop (mkF m 32 #[.val (.int (((31 : Int32) * (((31 : Int32) * (((31 : Int32) * ((31 : Int32) + x0)) + x1)) + x2)) + x3)), .val (.ref ao), .val (.int (0 : Int32)), .val (.int (4 : Int32)), .val (.int (4 : Int32)), .val (.int (4 : Int32))] [(.int (((31 : Int32) * (((31 : Int32) * (((31 : Int32) * ((31 : Int32) + x0)) + x1)) + x2)) + x3))]))
  refine own_retI C P dhc4_32 (by decide) (by decide) ⟨_, rfl, rfl⟩
theorem dvh4_0 : decode jdk_48_method_4_code 0 = .ok (.iload 4, 2) := by decide +kernel
theorem dvh4_2 : decode jdk_48_method_4_code 2 = .ok (.tableswitch 127 4 10 #[42, 55, 127, 127, 88, 101, 114], 42) := by decide +kernel
theorem dvh4_116 : decode jdk_48_method_4_code 116 = .ok (.iload_n 3, 1) := by decide +kernel
theorem dvh4_117 : decode jdk_48_method_4_code 117 = .ok (.aload_n 0, 1) := by decide +kernel
theorem dvh4_118 : decode jdk_48_method_4_code 118 = .ok (.checkcast 82, 3) := by decide +kernel
theorem dvh4_121 : decode jdk_48_method_4_code 121 = .ok (.iload_n 1, 1) := by decide +kernel
theorem dvh4_122 : decode jdk_48_method_4_code 122 = .ok (.iload_n 2, 1) := by decide +kernel
theorem dvh4_123 : decode jdk_48_method_4_code 123 = .ok (.invokestatic 84, 3) := by decide +kernel
theorem dvh4_126 : decode jdk_48_method_4_code 126 = .ok (.goto 31, 3) := by decide +kernel
theorem dvh4_157 : decode jdk_48_method_4_code 157 = .ok (.ireturn, 1) := by decide +kernel
theorem pnvh4 : plainName "jdk/internal/util/ArraysSupport" = true := by first | (simp [plainName, overriddenIn]; done) | decide +kernel
theorem efvh4 (m : MethodId) (ao : Addr)  : entryFrame m #[(.ref ao), (.int (0 : Int32)), (.int (4 : Int32)), (.int (1 : Int32)), (.int (10 : Int32))] 5 = mkF m 0 #[.val (.ref ao), .val (.int (0 : Int32)), .val (.int (4 : Int32)), .val (.int (1 : Int32)), .val (.int (10 : Int32))] [] := by first | (simp [entryFrame, mkF, argsToLocals, Value.category]; done) | rfl
set_option maxRecDepth 65536 in
set_option maxHeartbeats 40000000 in
theorem rmvh4 (l : Launch) (Z : State) (a0 : Array Value) (hw : ∀ d ∈ tables_1, d.before a0 Z = true) (ao : Addr) (k : ClassId) (x0 x1 x2 x3 : Int32) (h0 : Heap) (hE : Ext Z.heap h0)  (Ya : OwnAry Z h0 ao k .int [(.int x0), (.int x1), (.int x2), (.int x3)]) (Na : Z.vm.findClass "[I" = some k) :
    OwnMeets l (⟨"jdk/internal/util/ArraysSupport", "vectorizedHashCode", "(Ljava/lang/Object;IIII)I"⟩ : MethodName) jdk_48_method_4_code 5 (some .int) ({ frames := 1, cells := 0, slots := 0, locals := 17 } : Room) Z [] #[(.ref ao), (.int (0 : Int32)), (.int (4 : Int32)), (.int (1 : Int32)), (.int (10 : Int32))] h0 (fun v h => ∃ r : Int32, v = some (.int r) ∧ h0 = h) := by
  refine OwnMeets.of (plainFor_of_name pnvh4) hE all0 ?_
  intro p e s m below meth c T C P
  have hx := C.1
  have hby := C.2.2.2.2.1
  rw [show entryFrame m #[(.ref ao), (.int (0 : Int32)), (.int (4 : Int32)), (.int (1 : Int32)), (.int (10 : Int32))] 5 = _ from efvh4 m ao]
  show OwnDone p e below _ (T.setTop (mkF m 0 #[.val (.ref ao), .val (.int (0 : Int32)), .val (.int (4 : Int32)), .val (.int (1 : Int32)), .val (.int (10 : Int32))] []))
  refine OwnDone.go (A := (T.setTop (mkF m 118 #[.val (.ref ao), .val (.int (0 : Int32)), .val (.int (4 : Int32)), .val (.int (1 : Int32)), .val (.int (10 : Int32))] [(.ref ao), (.int (1 : Int32))]))) (fun tQ kQ => ?_) ?_
  · refine XS.iload P.here hx rfl (hb hby dvh4_0) rfl ?_
    show Steps p.tables e below (T.setTop (mkF m 2 #[.val (.ref ao), .val (.int (0 : Int32)), .val (.int (4 : Int32)), .val (.int (1 : Int32)), .val (.int (10 : Int32))] [(.int (10 : Int32))])) _
    refine own_tswIn (k := (10 : Int32)) (off := 114) (pc' := 116) C P dvh4_2 (by decide) rfl (by decide) (by decide) ?_
    show Steps p.tables e below (T.setTop (mkF m 116 #[.val (.ref ao), .val (.int (0 : Int32)), .val (.int (4 : Int32)), .val (.int (1 : Int32)), .val (.int (10 : Int32))] [])) _
    refine XS.iloadN P.here hx rfl (hb hby dvh4_116) rfl ?_
    show Steps p.tables e below (T.setTop (mkF m 117 #[.val (.ref ao), .val (.int (0 : Int32)), .val (.int (4 : Int32)), .val (.int (1 : Int32)), .val (.int (10 : Int32))] [(.int (1 : Int32))])) _
    refine XS.aloadN P.here hx rfl (hb hby dvh4_117) rfl rfl ?_
    show Steps p.tables e below (T.setTop (mkF m 118 #[.val (.ref ao), .val (.int (0 : Int32)), .val (.int (4 : Int32)), .val (.int (1 : Int32)), .val (.int (10 : Int32))] [(.ref ao), (.int (1 : Int32))])) _
    exact kQ
  show OwnDone p e below _ (T.setTop (mkF m 118 #[.val (.ref ao), .val (.int (0 : Int32)), .val (.int (4 : Int32)), .val (.int (1 : Int32)), .val (.int (10 : Int32))] [(.ref ao), (.int (1 : Int32))]))
  refine own_cast C P (hw _ (List.mem_of_getElem? (i := 167) rfl)) (Ya.ins Na) dvh4_118 (fun T1 P1 => ?_)
  show OwnDone p e below _ (T1.setTop (mkF m 121 #[.val (.ref ao), .val (.int (0 : Int32)), .val (.int (4 : Int32)), .val (.int (1 : Int32)), .val (.int (10 : Int32))] [(.ref ao), (.int (1 : Int32))]))
  refine OwnDone.go (A := (T1.setTop (mkF m 123 #[.val (.ref ao), .val (.int (0 : Int32)), .val (.int (4 : Int32)), .val (.int (1 : Int32)), .val (.int (10 : Int32))] [(.int (4 : Int32)), (.int (0 : Int32)), (.ref ao), (.int (1 : Int32))]))) (fun tQ kQ => ?_) ?_
  · refine XS.iloadN P1.here hx rfl (hb hby dvh4_121) rfl ?_
    show Steps p.tables e below (T1.setTop (mkF m 122 #[.val (.ref ao), .val (.int (0 : Int32)), .val (.int (4 : Int32)), .val (.int (1 : Int32)), .val (.int (10 : Int32))] [(.int (0 : Int32)), (.ref ao), (.int (1 : Int32))])) _
    refine XS.iloadN P1.here hx rfl (hb hby dvh4_122) rfl ?_
    show Steps p.tables e below (T1.setTop (mkF m 123 #[.val (.ref ao), .val (.int (0 : Int32)), .val (.int (4 : Int32)), .val (.int (1 : Int32)), .val (.int (10 : Int32))] [(.int (4 : Int32)), (.int (0 : Int32)), (.ref ao), (.int (1 : Int32))])) _
    exact kQ
  show OwnDone p e below _ (T1.setTop (mkF m 123 #[.val (.ref ao), .val (.int (0 : Int32)), .val (.int (4 : Int32)), .val (.int (1 : Int32)), .val (.int (10 : Int32))] [(.int (4 : Int32)), (.int (0 : Int32)), (.ref ao), (.int (1 : Int32))]))
  refine own_callS (y := (⟨"jdk/internal/util/ArraysSupport", "hashCode", "(I[III)I"⟩ : MethodName)) C P1 (hw _ (List.mem_of_getElem? (i := 169) rfl)) (hw _ (List.mem_of_getElem? (i := 170) rfl)) (hw _ (List.mem_of_getElem? (i := 165) rfl)) (hw _ (List.mem_of_getElem? (i := 171) rfl)) (by decide) (rmhc4 l Z a0 hw ao k x0 x1 x2 x3 h0 P1.old Ya Na) (as := [(.int (1 : Int32)), (.ref ao), (.int (0 : Int32)), (.int (4 : Int32))]) (rest := []) pd_11 rfl rfl (wd := 0) rfl rfl dvh4_123 all0 (by decide) (by decide) (by decide) (by decide) (fun T2 h2 v2 P2 K2 hQ2 => ?_)
  obtain ⟨r2, rfl, rfl⟩ := hQ2
  show OwnDone p e below _ (T2.setTop (mkF m 126 #[.val (.ref ao), .val (.int (0 : Int32)), .val (.int (4 : Int32)), .val (.int (1 : Int32)), .val (.int (10 : Int32))] [(.int r2)]))
  refine OwnDone.go (A := (T2.setTop (mkF m 157 #[.val (.ref ao), .val (.int (0 : Int32)), .val (.int (4 : Int32)), .val (.int (1 : Int32)), .val (.int (10 : Int32))] [(.int r2)]))) (fun tQ kQ => ?_) ?_
  · refine XS.goto P2.here hx rfl (pc0 := 126) (pc' := 157) rfl (hb hby dvh4_126) (by decide) (by decide) ?_
    show Steps p.tables e below (T2.setTop (mkF m 157 #[.val (.ref ao), .val (.int (0 : Int32)), .val (.int (4 : Int32)), .val (.int (1 : Int32)), .val (.int (10 : Int32))] [(.int r2)])) _
    exact kQ
  show OwnDone p e below _ (T2.setTop (mkF m 157 #[.val (.ref ao), .val (.int (0 : Int32)), .val (.int (4 : Int32)), .val (.int (1 : Int32)), .val (.int (10 : Int32))] [(.int r2)]))
  refine own_retI C P2 dvh4_157 (by decide) (by decide) ⟨_, rfl, rfl⟩
theorem dah4_0 : decode jdk_65_method_150_code 0 = .ok (.aload_n 0, 1) := by decide +kernel
theorem dah4_1 : decode jdk_65_method_150_code 1 = .ok (.ifnonnull 5, 3) := by decide +kernel
theorem dah4_6 : decode jdk_65_method_150_code 6 = .ok (.aload_n 0, 1) := by decide +kernel
theorem dah4_7 : decode jdk_65_method_150_code 7 = .ok (.arraylength, 1) := by decide +kernel
theorem dah4_8 : decode jdk_65_method_150_code 8 = .ok (.lookupswitch 41 #[(0, 28), (1, 32)], 28) := by decide +kernel
theorem dah4_49 : decode jdk_65_method_150_code 49 = .ok (.aload_n 0, 1) := by decide +kernel
theorem dah4_50 : decode jdk_65_method_150_code 50 = .ok (.iconst 0, 1) := by decide +kernel
theorem dah4_51 : decode jdk_65_method_150_code 51 = .ok (.aload_n 0, 1) := by decide +kernel
theorem dah4_52 : decode jdk_65_method_150_code 52 = .ok (.arraylength, 1) := by decide +kernel
theorem dah4_53 : decode jdk_65_method_150_code 53 = .ok (.iconst 1, 1) := by decide +kernel
theorem dah4_54 : decode jdk_65_method_150_code 54 = .ok (.bipush 10, 2) := by decide +kernel
theorem dah4_56 : decode jdk_65_method_150_code 56 = .ok (.invokestatic 379, 3) := by decide +kernel
theorem dah4_59 : decode jdk_65_method_150_code 59 = .ok (.ireturn, 1) := by decide +kernel
theorem pnah4 : plainName "java/util/Arrays" = true := by first | (simp [plainName, overriddenIn]; done) | decide +kernel
theorem efah4 (m : MethodId) (ao : Addr)  : entryFrame m #[(.ref ao)] 1 = mkF m 0 #[.val (.ref ao)] [] := by first | (simp [entryFrame, mkF, argsToLocals, Value.category]; done) | rfl
set_option maxRecDepth 65536 in
set_option maxHeartbeats 40000000 in
theorem rmah4 (l : Launch) (Z : State) (a0 : Array Value) (hw : ∀ d ∈ tables_1, d.before a0 Z = true) (ao : Addr) (k : ClassId) (x0 x1 x2 x3 : Int32) (h0 : Heap) (hE : Ext Z.heap h0)  (Ya : OwnAry Z h0 ao k .int [(.int x0), (.int x1), (.int x2), (.int x3)]) (Na : Z.vm.findClass "[I" = some k) :
    OwnMeets l (⟨"java/util/Arrays", "hashCode", "([I)I"⟩ : MethodName) jdk_65_method_150_code 1 (some .int) ({ frames := 2, cells := 0, slots := 0, locals := 33 } : Room) Z [] #[(.ref ao)] h0 (fun v h => ∃ r : Int32, v = some (.int r) ∧ h0 = h) := by
  refine OwnMeets.of (plainFor_of_name pnah4) hE all0 ?_
  intro p e s m below meth c T C P
  have hx := C.1
  have hby := C.2.2.2.2.1
  rw [show entryFrame m #[(.ref ao)] 1 = _ from efah4 m ao]
  show OwnDone p e below _ (T.setTop (mkF m 0 #[.val (.ref ao)] []))
  refine OwnDone.go (A := (T.setTop (mkF m 1 #[.val (.ref ao)] [(.ref ao)]))) (fun tQ kQ => ?_) ?_
  · refine XS.aloadN P.here hx rfl (hb hby dah4_0) rfl rfl ?_
    show Steps p.tables e below (T.setTop (mkF m 1 #[.val (.ref ao)] [(.ref ao)])) _
    exact kQ
  show OwnDone p e below _ (T.setTop (mkF m 1 #[.val (.ref ao)] [(.ref ao)]))
  refine OwnDone.go (A := (T.setTop (mkF m 6 #[.val (.ref ao)] []))) (fun tQ kQ => XT.ifnonnullYes P.here hx rfl (pc0 := 1) (pc' := 6) rfl (hb hby dah4_1) rfl (by decide) (by decide) kQ) ?_
  show OwnDone p e below _ (T.setTop (mkF m 6 #[.val (.ref ao)] []))
  refine OwnDone.go (A := (T.setTop (mkF m 56 #[.val (.ref ao)] [(.int (10 : Int32)), (.int (1 : Int32)), (.int (4 : Int32)), (.int (0 : Int32)), (.ref ao)]))) (fun tQ kQ => ?_) ?_
  · refine XS.aloadN P.here hx rfl (hb hby dah4_6) rfl rfl ?_
    show Steps p.tables e below (T.setTop (mkF m 7 #[.val (.ref ao)] [(.ref ao)])) _
    refine own_alen C P Ya dah4_7 ?_
    show Steps p.tables e below (T.setTop (mkF m 8 #[.val (.ref ao)] [(.int (4 : Int32))])) _
    refine own_lswMiss (k := (4 : Int32)) (pc' := 49) C P dah4_8 (by decide) (by decide) (by decide) (by decide) ?_
    show Steps p.tables e below (T.setTop (mkF m 49 #[.val (.ref ao)] [])) _
    refine XS.aloadN P.here hx rfl (hb hby dah4_49) rfl rfl ?_
    show Steps p.tables e below (T.setTop (mkF m 50 #[.val (.ref ao)] [(.ref ao)])) _
    refine XS.iconst P.here hx rfl (hb hby dah4_50) ?_
    show Steps p.tables e below (T.setTop (mkF m 51 #[.val (.ref ao)] [(.int (0 : Int32)), (.ref ao)])) _
    refine XS.aloadN P.here hx rfl (hb hby dah4_51) rfl rfl ?_
    show Steps p.tables e below (T.setTop (mkF m 52 #[.val (.ref ao)] [(.ref ao), (.int (0 : Int32)), (.ref ao)])) _
    refine own_alen C P Ya dah4_52 ?_
    show Steps p.tables e below (T.setTop (mkF m 53 #[.val (.ref ao)] [(.int (4 : Int32)), (.int (0 : Int32)), (.ref ao)])) _
    refine XS.iconst P.here hx rfl (hb hby dah4_53) ?_
    show Steps p.tables e below (T.setTop (mkF m 54 #[.val (.ref ao)] [(.int (1 : Int32)), (.int (4 : Int32)), (.int (0 : Int32)), (.ref ao)])) _
    refine XS.bipush P.here hx rfl (hb hby dah4_54) ?_
    show Steps p.tables e below (T.setTop (mkF m 56 #[.val (.ref ao)] [(.int (10 : Int32)), (.int (1 : Int32)), (.int (4 : Int32)), (.int (0 : Int32)), (.ref ao)])) _
    exact kQ
  show OwnDone p e below _ (T.setTop (mkF m 56 #[.val (.ref ao)] [(.int (10 : Int32)), (.int (1 : Int32)), (.int (4 : Int32)), (.int (0 : Int32)), (.ref ao)]))
  refine own_callS (y := (⟨"jdk/internal/util/ArraysSupport", "vectorizedHashCode", "(Ljava/lang/Object;IIII)I"⟩ : MethodName)) C P (hw _ (List.mem_of_getElem? (i := 163) rfl)) (hw _ (List.mem_of_getElem? (i := 164) rfl)) (hw _ (List.mem_of_getElem? (i := 165) rfl)) (hw _ (List.mem_of_getElem? (i := 166) rfl)) (by decide) (rmvh4 l Z a0 hw ao k x0 x1 x2 x3 h0 P.old Ya Na) (as := [(.ref ao), (.int (0 : Int32)), (.int (4 : Int32)), (.int (1 : Int32)), (.int (10 : Int32))]) (rest := []) pd_12 rfl rfl (wd := 0) rfl rfl dah4_56 all0 (by decide) (by decide) (by decide) (by decide) (fun T1 h1 v1 P1 K1 hQ1 => ?_)
  obtain ⟨r1, rfl, rfl⟩ := hQ1
  show OwnDone p e below _ (T1.setTop (mkF m 59 #[.val (.ref ao)] [(.int r1)]))
  refine own_retI C P1 dah4_59 (by decide) (by decide) ⟨_, rfl, rfl⟩
theorem dcil_61 : decode prog_12_method_1_code 61 = .ok (.iload 8, 2) := by decide +kernel
theorem dcil_63 : decode prog_12_method_1_code 63 = .ok (.iload 7, 2) := by decide +kernel
theorem dcil_65 : decode prog_12_method_1_code 65 = .ok (.if_icmp .gt 38, 3) := by decide +kernel
theorem dcil_68 : decode prog_12_method_1_code 68 = .ok (.iload 8, 2) := by decide +kernel
theorem dcil_70 : decode prog_12_method_1_code 70 = .ok (.bipush 64, 2) := by decide +kernel
theorem dcil_72 : decode prog_12_method_1_code 72 = .ok (.if_icmp .ge 13, 3) := by decide +kernel
theorem dcil_75 : decode prog_12_method_1_code 75 = .ok (.lload_n 2, 1) := by decide +kernel
theorem dcil_76 : decode prog_12_method_1_code 76 = .ok (.lconst 1, 1) := by decide +kernel
theorem dcil_77 : decode prog_12_method_1_code 77 = .ok (.iload 8, 2) := by decide +kernel
theorem dcil_79 : decode prog_12_method_1_code 79 = .ok (.lshl, 1) := by decide +kernel
theorem dcil_80 : decode prog_12_method_1_code 80 = .ok (.lor, 1) := by decide +kernel
theorem dcil_81 : decode prog_12_method_1_code 81 = .ok (.lstore_n 2, 1) := by decide +kernel
theorem dcil_82 : decode prog_12_method_1_code 82 = .ok (.goto 15, 3) := by decide +kernel
theorem dcil_85 : decode prog_12_method_1_code 85 = .ok (.lload 4, 2) := by decide +kernel
theorem dcil_87 : decode prog_12_method_1_code 87 = .ok (.lconst 1, 1) := by decide +kernel
theorem dcil_88 : decode prog_12_method_1_code 88 = .ok (.iload 8, 2) := by decide +kernel
theorem dcil_90 : decode prog_12_method_1_code 90 = .ok (.bipush 64, 2) := by decide +kernel
theorem dcil_92 : decode prog_12_method_1_code 92 = .ok (.isub, 1) := by decide +kernel
theorem dcil_93 : decode prog_12_method_1_code 93 = .ok (.lshl, 1) := by decide +kernel
theorem dcil_94 : decode prog_12_method_1_code 94 = .ok (.lor, 1) := by decide +kernel
theorem dcil_95 : decode prog_12_method_1_code 95 = .ok (.lstore 4, 2) := by decide +kernel
theorem dcil_97 : decode prog_12_method_1_code 97 = .ok (.iinc 8 1, 3) := by decide +kernel
theorem dcil_100 : decode prog_12_method_1_code 100 = .ok (.goto (-39), 3) := by decide +kernel
theorem own_cc1 {ee cc : Int32} (h : ¬ ee < cc) (he : ee.toInt ≤ 127) : (cc + 1).toInt = cc.toInt + 1 := by
  rw [Int32.lt_iff_toInt_lt] at h
  have h1 := c_iadd cc 1
  have e1 : (1 : Int32).toInt = 1 := by decide
  have h2 := rng32 (cc + 1)
  have h3 := rng32 cc
  omega
set_option maxRecDepth 65536 in
set_option maxHeartbeats 40000000 in
theorem cilLoop {p : Program} {l : Launch} {e : Env} {R : Room} {s : State} {m : MethodId} {args : Array Value} {below : List Frame} {meth : Method} {c : Code} {T : State} {cells slots : Nat} {Z : State} {h h0 : Heap} {ws : List Addr} {rt : Option FieldType} {own nm : String} {Wd : State → Outcome → Prop} {th ra : Addr} {ii ee : Int32}
    (C : OwnCx p Z s m meth c own nm prog_12_method_1_code 9 rt) (P : OwnPos p l e R s m args below meth c Z ws h0 T h cells slots) (he : ee.toInt ≤ 127)
    (K : ∀ (lo hi : Int64) (cc : Int32), OwnDone p e below Wd (T.setTop (mkF m 103 #[.val (.ref th), .val (.ref ra), .val (.long lo), .second, .val (.long hi), .second, .val (.int ii), .val (.int ee), .val (.int cc)] []))) : ∀ (n : Nat) (lo hi : Int64) (cc : Int32), ee.toInt - cc.toInt < n → OwnDone p e below Wd (T.setTop (mkF m 61 #[.val (.ref th), .val (.ref ra), .val (.long lo), .second, .val (.long hi), .second, .val (.int ii), .val (.int ee), .val (.int cc)] [])) := by
  have hx := C.1
  have hby := C.2.2.2.2.1
  intro n
  induction n with
  | zero =>
    intro lo hi cc hn
    have hc65 : ee < cc := by rw [Int32.lt_iff_toInt_lt]; omega
    refine OwnDone.go (A := (T.setTop (mkF m 65 #[.val (.ref th), .val (.ref ra), .val (.long lo), .second, .val (.long hi), .second, .val (.int ii), .val (.int ee), .val (.int cc)] [(.int ee), (.int cc)]))) (fun tQ kQ => ?_) ?_
    · refine XS.iload P.here hx rfl (hb hby dcil_61) rfl ?_
      show Steps p.tables e below (T.setTop (mkF m 63 #[.val (.ref th), .val (.ref ra), .val (.long lo), .second, .val (.long hi), .second, .val (.int ii), .val (.int ee), .val (.int cc)] [(.int cc)])) _
      refine XS.iload P.here hx rfl (hb hby dcil_63) rfl ?_
      show Steps p.tables e below (T.setTop (mkF m 65 #[.val (.ref th), .val (.ref ra), .val (.long lo), .second, .val (.long hi), .second, .val (.int ii), .val (.int ee), .val (.int cc)] [(.int ee), (.int cc)])) _
      exact kQ
    show OwnDone p e below _ (T.setTop (mkF m 65 #[.val (.ref th), .val (.ref ra), .val (.long lo), .second, .val (.long hi), .second, .val (.int ii), .val (.int ee), .val (.int cc)] [(.int ee), (.int cc)]))
    refine OwnDone.go (A := (T.setTop (mkF m 103 #[.val (.ref th), .val (.ref ra), .val (.long lo), .second, .val (.long hi), .second, .val (.int ii), .val (.int ee), .val (.int cc)] []))) (fun tQ kQ => XS.icmpYes P.here hx rfl (pc0 := 65) (pc' := 103) rfl (hb hby dcil_65) rfl (XT.ii_gt_t hc65) (by decide) (by decide) kQ) ?_
    show OwnDone p e below _ (T.setTop (mkF m 103 #[.val (.ref th), .val (.ref ra), .val (.long lo), .second, .val (.long hi), .second, .val (.int ii), .val (.int ee), .val (.int cc)] []))
    exact K _ _ _
  | succ n ih =>
    intro lo hi cc hn
    refine OwnDone.go (A := (T.setTop (mkF m 65 #[.val (.ref th), .val (.ref ra), .val (.long lo), .second, .val (.long hi), .second, .val (.int ii), .val (.int ee), .val (.int cc)] [(.int ee), (.int cc)]))) (fun tQ kQ => ?_) ?_
    · refine XS.iload P.here hx rfl (hb hby dcil_61) rfl ?_
      show Steps p.tables e below (T.setTop (mkF m 63 #[.val (.ref th), .val (.ref ra), .val (.long lo), .second, .val (.long hi), .second, .val (.int ii), .val (.int ee), .val (.int cc)] [(.int cc)])) _
      refine XS.iload P.here hx rfl (hb hby dcil_63) rfl ?_
      show Steps p.tables e below (T.setTop (mkF m 65 #[.val (.ref th), .val (.ref ra), .val (.long lo), .second, .val (.long hi), .second, .val (.int ii), .val (.int ee), .val (.int cc)] [(.int ee), (.int cc)])) _
      exact kQ
    show OwnDone p e below _ (T.setTop (mkF m 65 #[.val (.ref th), .val (.ref ra), .val (.long lo), .second, .val (.long hi), .second, .val (.int ii), .val (.int ee), .val (.int cc)] [(.int ee), (.int cc)]))
    by_cases hc65 : ee < cc
    · refine OwnDone.go (A := (T.setTop (mkF m 103 #[.val (.ref th), .val (.ref ra), .val (.long lo), .second, .val (.long hi), .second, .val (.int ii), .val (.int ee), .val (.int cc)] []))) (fun tQ kQ => XS.icmpYes P.here hx rfl (pc0 := 65) (pc' := 103) rfl (hb hby dcil_65) rfl (XT.ii_gt_t hc65) (by decide) (by decide) kQ) ?_
      show OwnDone p e below _ (T.setTop (mkF m 103 #[.val (.ref th), .val (.ref ra), .val (.long lo), .second, .val (.long hi), .second, .val (.int ii), .val (.int ee), .val (.int cc)] []))
      exact K _ _ _
    · refine OwnDone.go (A := (T.setTop (mkF m 68 #[.val (.ref th), .val (.ref ra), .val (.long lo), .second, .val (.long hi), .second, .val (.int ii), .val (.int ee), .val (.int cc)] []))) (fun tQ kQ => XS.icmpNo P.here hx rfl (hb hby dcil_65) rfl (XT.ii_gt_f hc65) kQ) ?_
      show OwnDone p e below _ (T.setTop (mkF m 68 #[.val (.ref th), .val (.ref ra), .val (.long lo), .second, .val (.long hi), .second, .val (.int ii), .val (.int ee), .val (.int cc)] []))
      refine OwnDone.go (A := (T.setTop (mkF m 72 #[.val (.ref th), .val (.ref ra), .val (.long lo), .second, .val (.long hi), .second, .val (.int ii), .val (.int ee), .val (.int cc)] [(.int (64 : Int32)), (.int cc)]))) (fun tQ kQ => ?_) ?_
      · refine XS.iload P.here hx rfl (hb hby dcil_68) rfl ?_
        show Steps p.tables e below (T.setTop (mkF m 70 #[.val (.ref th), .val (.ref ra), .val (.long lo), .second, .val (.long hi), .second, .val (.int ii), .val (.int ee), .val (.int cc)] [(.int cc)])) _
        refine XS.bipush P.here hx rfl (hb hby dcil_70) ?_
        show Steps p.tables e below (T.setTop (mkF m 72 #[.val (.ref th), .val (.ref ra), .val (.long lo), .second, .val (.long hi), .second, .val (.int ii), .val (.int ee), .val (.int cc)] [(.int (64 : Int32)), (.int cc)])) _
        exact kQ
      show OwnDone p e below _ (T.setTop (mkF m 72 #[.val (.ref th), .val (.ref ra), .val (.long lo), .second, .val (.long hi), .second, .val (.int ii), .val (.int ee), .val (.int cc)] [(.int (64 : Int32)), (.int cc)]))
      by_cases hc72 : cc < (64 : Int32)
      · refine OwnDone.go (A := (T.setTop (mkF m 75 #[.val (.ref th), .val (.ref ra), .val (.long lo), .second, .val (.long hi), .second, .val (.int ii), .val (.int ee), .val (.int cc)] []))) (fun tQ kQ => XS.icmpNo P.here hx rfl (hb hby dcil_72) rfl (XT.ii_ge_f hc72) kQ) ?_
        show OwnDone p e below _ (T.setTop (mkF m 75 #[.val (.ref th), .val (.ref ra), .val (.long lo), .second, .val (.long hi), .second, .val (.int ii), .val (.int ee), .val (.int cc)] []))
        refine OwnDone.go (A := (T.setTop (mkF m 97 #[.val (.ref th), .val (.ref ra), .val (.long (lo ||| ((1 : Int64) <<< ((cc).toInt64 &&& 63)))), .second, .val (.long hi), .second, .val (.int ii), .val (.int ee), .val (.int cc)] []))) (fun tQ kQ => ?_) ?_
        · refine XT.lloadN P.here hx rfl (hb hby dcil_75) rfl ?_
          show Steps p.tables e below (T.setTop (mkF m 76 #[.val (.ref th), .val (.ref ra), .val (.long lo), .second, .val (.long hi), .second, .val (.int ii), .val (.int ee), .val (.int cc)] [(.long lo)])) _
          refine XT.lconst P.here hx rfl (hb hby dcil_76) ?_
          show Steps p.tables e below (T.setTop (mkF m 77 #[.val (.ref th), .val (.ref ra), .val (.long lo), .second, .val (.long hi), .second, .val (.int ii), .val (.int ee), .val (.int cc)] [(.long (1 : Int64)), (.long lo)])) _
          refine XS.iload P.here hx rfl (hb hby dcil_77) rfl ?_
          show Steps p.tables e below (T.setTop (mkF m 79 #[.val (.ref th), .val (.ref ra), .val (.long lo), .second, .val (.long hi), .second, .val (.int ii), .val (.int ee), .val (.int cc)] [(.int cc), (.long (1 : Int64)), (.long lo)])) _
          refine XT.lshl P.here hx rfl (hb hby dcil_79) rfl ?_
          show Steps p.tables e below (T.setTop (mkF m 80 #[.val (.ref th), .val (.ref ra), .val (.long lo), .second, .val (.long hi), .second, .val (.int ii), .val (.int ee), .val (.int cc)] [(.long ((1 : Int64) <<< ((cc).toInt64 &&& 63))), (.long lo)])) _
          refine XT.lor P.here hx rfl (hb hby dcil_80) rfl ?_
          show Steps p.tables e below (T.setTop (mkF m 81 #[.val (.ref th), .val (.ref ra), .val (.long lo), .second, .val (.long hi), .second, .val (.int ii), .val (.int ee), .val (.int cc)] [(.long (lo ||| ((1 : Int64) <<< ((cc).toInt64 &&& 63))))])) _
          refine XT.lstoreN P.here hx rfl (hb hby dcil_81) rfl (l' := #[.val (.ref th), .val (.ref ra), .val (.long (lo ||| ((1 : Int64) <<< ((cc).toInt64 &&& 63)))), .second, .val (.long hi), .second, .val (.int ii), .val (.int ee), .val (.int cc)]) rfl ?_
          show Steps p.tables e below (T.setTop (mkF m 82 #[.val (.ref th), .val (.ref ra), .val (.long (lo ||| ((1 : Int64) <<< ((cc).toInt64 &&& 63)))), .second, .val (.long hi), .second, .val (.int ii), .val (.int ee), .val (.int cc)] [])) _
          refine XS.goto P.here hx rfl (pc0 := 82) (pc' := 97) rfl (hb hby dcil_82) (by decide) (by decide) ?_
          show Steps p.tables e below (T.setTop (mkF m 97 #[.val (.ref th), .val (.ref ra), .val (.long (lo ||| ((1 : Int64) <<< ((cc).toInt64 &&& 63)))), .second, .val (.long hi), .second, .val (.int ii), .val (.int ee), .val (.int cc)] [])) _
          exact kQ
        show OwnDone p e below _ (T.setTop (mkF m 97 #[.val (.ref th), .val (.ref ra), .val (.long (lo ||| ((1 : Int64) <<< ((cc).toInt64 &&& 63)))), .second, .val (.long hi), .second, .val (.int ii), .val (.int ee), .val (.int cc)] []))
        refine OwnDone.go (A := (T.setTop (mkF m 61 #[.val (.ref th), .val (.ref ra), .val (.long (lo ||| ((1 : Int64) <<< ((cc).toInt64 &&& 63)))), .second, .val (.long hi), .second, .val (.int ii), .val (.int ee), .val (.int (cc + (1 : Int32)))] []))) (fun tQ kQ => ?_) ?_
        · refine XS.iinc P.here hx rfl (hb hby dcil_97) rfl (l' := #[.val (.ref th), .val (.ref ra), .val (.long (lo ||| ((1 : Int64) <<< ((cc).toInt64 &&& 63)))), .second, .val (.long hi), .second, .val (.int ii), .val (.int ee), .val (.int (cc + (1 : Int32)))]) rfl ?_
          show Steps p.tables e below (T.setTop (mkF m 100 #[.val (.ref th), .val (.ref ra), .val (.long (lo ||| ((1 : Int64) <<< ((cc).toInt64 &&& 63)))), .second, .val (.long hi), .second, .val (.int ii), .val (.int ee), .val (.int (cc + (1 : Int32)))] [])) _
          refine XS.goto P.here hx rfl (pc0 := 100) (pc' := 61) rfl (hb hby dcil_100) (by decide) (by decide) ?_
          show Steps p.tables e below (T.setTop (mkF m 61 #[.val (.ref th), .val (.ref ra), .val (.long (lo ||| ((1 : Int64) <<< ((cc).toInt64 &&& 63)))), .second, .val (.long hi), .second, .val (.int ii), .val (.int ee), .val (.int (cc + (1 : Int32)))] [])) _
          exact kQ
        show OwnDone p e below _ (T.setTop (mkF m 61 #[.val (.ref th), .val (.ref ra), .val (.long (lo ||| ((1 : Int64) <<< ((cc).toInt64 &&& 63)))), .second, .val (.long hi), .second, .val (.int ii), .val (.int ee), .val (.int (cc + (1 : Int32)))] []))
        exact ih _ _ _ (by have q := own_cc1 hc65 he; omega)
      · refine OwnDone.go (A := (T.setTop (mkF m 85 #[.val (.ref th), .val (.ref ra), .val (.long lo), .second, .val (.long hi), .second, .val (.int ii), .val (.int ee), .val (.int cc)] []))) (fun tQ kQ => XS.icmpYes P.here hx rfl (pc0 := 72) (pc' := 85) rfl (hb hby dcil_72) rfl (XT.ii_ge_t hc72) (by decide) (by decide) kQ) ?_
        show OwnDone p e below _ (T.setTop (mkF m 85 #[.val (.ref th), .val (.ref ra), .val (.long lo), .second, .val (.long hi), .second, .val (.int ii), .val (.int ee), .val (.int cc)] []))
        refine OwnDone.go (A := (T.setTop (mkF m 97 #[.val (.ref th), .val (.ref ra), .val (.long lo), .second, .val (.long (hi ||| ((1 : Int64) <<< (((cc - (64 : Int32))).toInt64 &&& 63)))), .second, .val (.int ii), .val (.int ee), .val (.int cc)] []))) (fun tQ kQ => ?_) ?_
        · refine XT.lload P.here hx rfl (hb hby dcil_85) rfl ?_
          show Steps p.tables e below (T.setTop (mkF m 87 #[.val (.ref th), .val (.ref ra), .val (.long lo), .second, .val (.long hi), .second, .val (.int ii), .val (.int ee), .val (.int cc)] [(.long hi)])) _
          refine XT.lconst P.here hx rfl (hb hby dcil_87) ?_
          show Steps p.tables e below (T.setTop (mkF m 88 #[.val (.ref th), .val (.ref ra), .val (.long lo), .second, .val (.long hi), .second, .val (.int ii), .val (.int ee), .val (.int cc)] [(.long (1 : Int64)), (.long hi)])) _
          refine XS.iload P.here hx rfl (hb hby dcil_88) rfl ?_
          show Steps p.tables e below (T.setTop (mkF m 90 #[.val (.ref th), .val (.ref ra), .val (.long lo), .second, .val (.long hi), .second, .val (.int ii), .val (.int ee), .val (.int cc)] [(.int cc), (.long (1 : Int64)), (.long hi)])) _
          refine XS.bipush P.here hx rfl (hb hby dcil_90) ?_
          show Steps p.tables e below (T.setTop (mkF m 92 #[.val (.ref th), .val (.ref ra), .val (.long lo), .second, .val (.long hi), .second, .val (.int ii), .val (.int ee), .val (.int cc)] [(.int (64 : Int32)), (.int cc), (.long (1 : Int64)), (.long hi)])) _
          refine XS.isub P.here hx rfl (hb hby dcil_92) rfl ?_
          show Steps p.tables e below (T.setTop (mkF m 93 #[.val (.ref th), .val (.ref ra), .val (.long lo), .second, .val (.long hi), .second, .val (.int ii), .val (.int ee), .val (.int cc)] [(.int (cc - (64 : Int32))), (.long (1 : Int64)), (.long hi)])) _
          refine XT.lshl P.here hx rfl (hb hby dcil_93) rfl ?_
          show Steps p.tables e below (T.setTop (mkF m 94 #[.val (.ref th), .val (.ref ra), .val (.long lo), .second, .val (.long hi), .second, .val (.int ii), .val (.int ee), .val (.int cc)] [(.long ((1 : Int64) <<< (((cc - (64 : Int32))).toInt64 &&& 63))), (.long hi)])) _
          refine XT.lor P.here hx rfl (hb hby dcil_94) rfl ?_
          show Steps p.tables e below (T.setTop (mkF m 95 #[.val (.ref th), .val (.ref ra), .val (.long lo), .second, .val (.long hi), .second, .val (.int ii), .val (.int ee), .val (.int cc)] [(.long (hi ||| ((1 : Int64) <<< (((cc - (64 : Int32))).toInt64 &&& 63))))])) _
          refine XT.lstore P.here hx rfl (hb hby dcil_95) rfl (l' := #[.val (.ref th), .val (.ref ra), .val (.long lo), .second, .val (.long (hi ||| ((1 : Int64) <<< (((cc - (64 : Int32))).toInt64 &&& 63)))), .second, .val (.int ii), .val (.int ee), .val (.int cc)]) rfl ?_
          show Steps p.tables e below (T.setTop (mkF m 97 #[.val (.ref th), .val (.ref ra), .val (.long lo), .second, .val (.long (hi ||| ((1 : Int64) <<< (((cc - (64 : Int32))).toInt64 &&& 63)))), .second, .val (.int ii), .val (.int ee), .val (.int cc)] [])) _
          exact kQ
        show OwnDone p e below _ (T.setTop (mkF m 97 #[.val (.ref th), .val (.ref ra), .val (.long lo), .second, .val (.long (hi ||| ((1 : Int64) <<< (((cc - (64 : Int32))).toInt64 &&& 63)))), .second, .val (.int ii), .val (.int ee), .val (.int cc)] []))
        refine OwnDone.go (A := (T.setTop (mkF m 61 #[.val (.ref th), .val (.ref ra), .val (.long lo), .second, .val (.long (hi ||| ((1 : Int64) <<< (((cc - (64 : Int32))).toInt64 &&& 63)))), .second, .val (.int ii), .val (.int ee), .val (.int (cc + (1 : Int32)))] []))) (fun tQ kQ => ?_) ?_
        · refine XS.iinc P.here hx rfl (hb hby dcil_97) rfl (l' := #[.val (.ref th), .val (.ref ra), .val (.long lo), .second, .val (.long (hi ||| ((1 : Int64) <<< (((cc - (64 : Int32))).toInt64 &&& 63)))), .second, .val (.int ii), .val (.int ee), .val (.int (cc + (1 : Int32)))]) rfl ?_
          show Steps p.tables e below (T.setTop (mkF m 100 #[.val (.ref th), .val (.ref ra), .val (.long lo), .second, .val (.long (hi ||| ((1 : Int64) <<< (((cc - (64 : Int32))).toInt64 &&& 63)))), .second, .val (.int ii), .val (.int ee), .val (.int (cc + (1 : Int32)))] [])) _
          refine XS.goto P.here hx rfl (pc0 := 100) (pc' := 61) rfl (hb hby dcil_100) (by decide) (by decide) ?_
          show Steps p.tables e below (T.setTop (mkF m 61 #[.val (.ref th), .val (.ref ra), .val (.long lo), .second, .val (.long (hi ||| ((1 : Int64) <<< (((cc - (64 : Int32))).toInt64 &&& 63)))), .second, .val (.int ii), .val (.int ee), .val (.int (cc + (1 : Int32)))] [])) _
          exact kQ
        show OwnDone p e below _ (T.setTop (mkF m 61 #[.val (.ref th), .val (.ref ra), .val (.long lo), .second, .val (.long (hi ||| ((1 : Int64) <<< (((cc - (64 : Int32))).toInt64 &&& 63)))), .second, .val (.int ii), .val (.int ee), .val (.int (cc + (1 : Int32)))] []))
        exact ih _ _ _ (by have q := own_cc1 hc65 he; omega)
theorem own_e127 {x r : Int32} (h : (127 : Int32) < x ∧ r = 127 ∨ ¬ (127 : Int32) < x ∧ r = x) : r.toInt ≤ 127 := by
  have e1 : (127 : Int32).toInt = 127 := by decide
  rcases h with ⟨-, rfl⟩ | ⟨h, rfl⟩
  · decide
  · rw [Int32.lt_iff_toInt_lt] at h; omega
theorem own_mea {x r c : Int32} (h : (127 : Int32) < x ∧ r = 127 ∨ ¬ (127 : Int32) < x ∧ r = x) : r.toInt - c.toInt < (4294967296 : Nat) := by
  have h1 := own_e127 h
  have h2 := rng32 c
  omega
theorem dci2_0 : decode prog_12_method_1_code 0 = .ok (.aload_n 0, 1) := by decide +kernel
theorem dci2_1 : decode prog_12_method_1_code 1 = .ok (.invokespecial 1, 3) := by decide +kernel
theorem dci2_4 : decode prog_12_method_1_code 4 = .ok (.aload_n 0, 1) := by decide +kernel
theorem dci2_5 : decode prog_12_method_1_code 5 = .ok (.aload_n 1, 1) := by decide +kernel
theorem dci2_6 : decode prog_12_method_1_code 6 = .ok (.putfield 7, 3) := by decide +kernel
theorem dci2_9 : decode prog_12_method_1_code 9 = .ok (.aload_n 0, 1) := by decide +kernel
theorem dci2_10 : decode prog_12_method_1_code 10 = .ok (.aload_n 1, 1) := by decide +kernel
theorem dci2_11 : decode prog_12_method_1_code 11 = .ok (.invokestatic 13, 3) := by decide +kernel
theorem dci2_14 : decode prog_12_method_1_code 14 = .ok (.putfield 19, 3) := by decide +kernel
theorem dci2_17 : decode prog_12_method_1_code 17 = .ok (.lconst 0, 1) := by decide +kernel
theorem dci2_18 : decode prog_12_method_1_code 18 = .ok (.lstore_n 2, 1) := by decide +kernel
theorem dci2_19 : decode prog_12_method_1_code 19 = .ok (.lconst 0, 1) := by decide +kernel
theorem dci2_20 : decode prog_12_method_1_code 20 = .ok (.lstore 4, 2) := by decide +kernel
theorem dci2_22 : decode prog_12_method_1_code 22 = .ok (.iconst 0, 1) := by decide +kernel
theorem dci2_23 : decode prog_12_method_1_code 23 = .ok (.istore 6, 2) := by decide +kernel
theorem dci2_25 : decode prog_12_method_1_code 25 = .ok (.iload 6, 2) := by decide +kernel
theorem dci2_27 : decode prog_12_method_1_code 27 = .ok (.aload_n 1, 1) := by decide +kernel
theorem dci2_28 : decode prog_12_method_1_code 28 = .ok (.arraylength, 1) := by decide +kernel
theorem dci2_29 : decode prog_12_method_1_code 29 = .ok (.if_icmp .ge 80, 3) := by decide +kernel
theorem dci2_32 : decode prog_12_method_1_code 32 = .ok (.aload_n 1, 1) := by decide +kernel
theorem dci2_33 : decode prog_12_method_1_code 33 = .ok (.iload 6, 2) := by decide +kernel
theorem dci2_35 : decode prog_12_method_1_code 35 = .ok (.iaload, 1) := by decide +kernel
theorem dci2_36 : decode prog_12_method_1_code 36 = .ok (.sipush 128, 3) := by decide +kernel
theorem dci2_39 : decode prog_12_method_1_code 39 = .ok (.if_icmp .ge 70, 3) := by decide +kernel
theorem dci2_42 : decode prog_12_method_1_code 42 = .ok (.aload_n 1, 1) := by decide +kernel
theorem dci2_43 : decode prog_12_method_1_code 43 = .ok (.iload 6, 2) := by decide +kernel
theorem dci2_45 : decode prog_12_method_1_code 45 = .ok (.iconst 1, 1) := by decide +kernel
theorem dci2_46 : decode prog_12_method_1_code 46 = .ok (.iadd, 1) := by decide +kernel
theorem dci2_47 : decode prog_12_method_1_code 47 = .ok (.iaload, 1) := by decide +kernel
theorem dci2_48 : decode prog_12_method_1_code 48 = .ok (.bipush 127, 2) := by decide +kernel
theorem dci2_50 : decode prog_12_method_1_code 50 = .ok (.invokestatic 23, 3) := by decide +kernel
theorem dci2_53 : decode prog_12_method_1_code 53 = .ok (.istore 7, 2) := by decide +kernel
theorem dci2_55 : decode prog_12_method_1_code 55 = .ok (.aload_n 1, 1) := by decide +kernel
theorem dci2_56 : decode prog_12_method_1_code 56 = .ok (.iload 6, 2) := by decide +kernel
theorem dci2_58 : decode prog_12_method_1_code 58 = .ok (.iaload, 1) := by decide +kernel
theorem dci2_59 : decode prog_12_method_1_code 59 = .ok (.istore 8, 2) := by decide +kernel
theorem dci2_103 : decode prog_12_method_1_code 103 = .ok (.iinc 6 2, 3) := by decide +kernel
theorem dci2_106 : decode prog_12_method_1_code 106 = .ok (.goto (-81), 3) := by decide +kernel
theorem dci2_109 : decode prog_12_method_1_code 109 = .ok (.aload_n 0, 1) := by decide +kernel
theorem dci2_110 : decode prog_12_method_1_code 110 = .ok (.lload_n 2, 1) := by decide +kernel
theorem dci2_111 : decode prog_12_method_1_code 111 = .ok (.putfield 29, 3) := by decide +kernel
theorem dci2_114 : decode prog_12_method_1_code 114 = .ok (.aload_n 0, 1) := by decide +kernel
theorem dci2_115 : decode prog_12_method_1_code 115 = .ok (.lload 4, 2) := by decide +kernel
theorem dci2_117 : decode prog_12_method_1_code 117 = .ok (.putfield 33, 3) := by decide +kernel
theorem dci2_120 : decode prog_12_method_1_code 120 = .ok (.return_, 1) := by decide +kernel
theorem pnci2 : plainName "com/example/bounded_array/boundedarray/regex/CodePointSet" = true := by first | (simp [plainName, overriddenIn]; done) | decide +kernel
theorem efci2 (m : MethodId) (ao : Addr) (ra : Addr)  : entryFrame m #[(.ref ao), (.ref ra)] 9 = mkF m 0 #[.val (.ref ao), .val (.ref ra), .unset, .unset, .unset, .unset, .unset, .unset, .unset] [] := by first | (simp [entryFrame, mkF, argsToLocals, Value.category]; done) | rfl
set_option maxRecDepth 65536 in
set_option maxHeartbeats 40000000 in
theorem rmci2 (l : Launch) (Z : State) (a0 : Array Value) (hw : ∀ d ∈ tables_1, d.before a0 Z = true) (ao : Addr) (ra : Addr) (k : ClassId) (x0 x1 : Int32) (h0 : Heap) (hE : Ext Z.heap h0) (g_ao : Z.heap.size ≤ ao) (Oa : OwnObj Z h0 ao "com/example/bounded_array/boundedarray/regex/CodePointSet" own_lay4 [.null, (.int (0 : Int32)), (.long (0 : Int64)), (.long (0 : Int64))]) (Ya : OwnAry Z h0 ra k .int [(.int x0), (.int x1)]) (Na : Z.vm.findClass "[I" = some k) (nar : ao ≠ ra) :
    OwnMeets l (⟨"com/example/bounded_array/boundedarray/regex/CodePointSet", "<init>", "([I)V"⟩ : MethodName) prog_12_method_1_code 9 none ({ frames := 3, cells := 0, slots := 0, locals := 46 } : Room) Z [ao] #[(.ref ao), (.ref ra)] h0 (fun v h => v = none ∧ ∃ hs lo hi, OwnObj Z h ao "com/example/bounded_array/boundedarray/regex/CodePointSet" own_lay4 [(.ref ra), (.int hs), (.long lo), (.long hi)]) := by
  refine OwnMeets.of (plainFor_of_name pnci2) hE (allS g_ao all0) ?_
  intro p e s m below meth c T C P
  have hx := C.1
  have hby := C.2.2.2.2.1
  rw [show entryFrame m #[(.ref ao), (.ref ra)] 9 = _ from efci2 m ao ra]
  show OwnDone p e below _ (T.setTop (mkF m 0 #[.val (.ref ao), .val (.ref ra), .unset, .unset, .unset, .unset, .unset, .unset, .unset] []))
  refine OwnDone.go (A := (T.setTop (mkF m 1 #[.val (.ref ao), .val (.ref ra), .unset, .unset, .unset, .unset, .unset, .unset, .unset] [(.ref ao)]))) (fun tQ kQ => ?_) ?_
  · refine XS.aloadN P.here hx rfl (hb hby dci2_0) rfl rfl ?_
    show Steps p.tables e below (T.setTop (mkF m 1 #[.val (.ref ao), .val (.ref ra), .unset, .unset, .unset, .unset, .unset, .unset, .unset] [(.ref ao)])) _
    exact kQ
  show OwnDone p e below _ (T.setTop (mkF m 1 #[.val (.ref ao), .val (.ref ra), .unset, .unset, .unset, .unset, .unset, .unset, .unset] [(.ref ao)]))
  refine own_initO (wd := 0) (rest := []) C P (hw _ (List.mem_of_getElem? (i := 157) rfl)) (hw _ (List.mem_of_getElem? (i := 20) rfl)) (hw _ (List.mem_of_getElem? (i := 21) rfl)) rfl rfl dci2_1 (by decide) (by decide) (fun T1 P1 => ?_)
  show OwnDone p e below _ (T1.setTop (mkF m 4 #[.val (.ref ao), .val (.ref ra), .unset, .unset, .unset, .unset, .unset, .unset, .unset] []))
  refine OwnDone.go (A := (T1.setTop (mkF m 6 #[.val (.ref ao), .val (.ref ra), .unset, .unset, .unset, .unset, .unset, .unset, .unset] [(.ref ra), (.ref ao)]))) (fun tQ kQ => ?_) ?_
  · refine XS.aloadN P1.here hx rfl (hb hby dci2_4) rfl rfl ?_
    show Steps p.tables e below (T1.setTop (mkF m 5 #[.val (.ref ao), .val (.ref ra), .unset, .unset, .unset, .unset, .unset, .unset, .unset] [(.ref ao)])) _
    refine XS.aloadN P1.here hx rfl (hb hby dci2_5) rfl rfl ?_
    show Steps p.tables e below (T1.setTop (mkF m 6 #[.val (.ref ao), .val (.ref ra), .unset, .unset, .unset, .unset, .unset, .unset, .unset] [(.ref ra), (.ref ao)])) _
    exact kQ
  show OwnDone p e below _ (T1.setTop (mkF m 6 #[.val (.ref ao), .val (.ref ra), .unset, .unset, .unset, .unset, .unset, .unset, .unset] [(.ref ra), (.ref ao)]))
  refine own_putO (ty := (.array .int)) C P1 (hw _ (List.mem_of_getElem? (i := 158) rfl)) Via.refl Oa (own_laid4 hw) 0 rfl rfl (Or.inr ⟨(hw _ (List.mem_of_getElem? (i := 159) rfl)), rfl, rfl⟩) (hw _ (List.mem_of_getElem? (i := 144) rfl)) (by decide) rfl rfl (Or.inl (List.mem_of_getElem? (i := 0) rfl)) dci2_6 (vs' := [(.ref ra), (.int (0 : Int32)), (.long (0 : Int64)), (.long (0 : Int64))]) rfl (fun T2 h2 P2 K2 O2 => ?_)
  have Y3_ra := Ya.keep K2 (ninS (Ne.symm nar) nin0)
  show OwnDone p e below _ (T2.setTop (mkF m 9 #[.val (.ref ao), .val (.ref ra), .unset, .unset, .unset, .unset, .unset, .unset, .unset] []))
  refine OwnDone.go (A := (T2.setTop (mkF m 11 #[.val (.ref ao), .val (.ref ra), .unset, .unset, .unset, .unset, .unset, .unset, .unset] [(.ref ra), (.ref ao)]))) (fun tQ kQ => ?_) ?_
  · refine XS.aloadN P2.here hx rfl (hb hby dci2_9) rfl rfl ?_
    show Steps p.tables e below (T2.setTop (mkF m 10 #[.val (.ref ao), .val (.ref ra), .unset, .unset, .unset, .unset, .unset, .unset, .unset] [(.ref ao)])) _
    refine XS.aloadN P2.here hx rfl (hb hby dci2_10) rfl rfl ?_
    show Steps p.tables e below (T2.setTop (mkF m 11 #[.val (.ref ao), .val (.ref ra), .unset, .unset, .unset, .unset, .unset, .unset, .unset] [(.ref ra), (.ref ao)])) _
    exact kQ
  show OwnDone p e below _ (T2.setTop (mkF m 11 #[.val (.ref ao), .val (.ref ra), .unset, .unset, .unset, .unset, .unset, .unset, .unset] [(.ref ra), (.ref ao)]))
  refine own_callS (y := (⟨"java/util/Arrays", "hashCode", "([I)I"⟩ : MethodName)) C P2 (hw _ (List.mem_of_getElem? (i := 160) rfl)) (hw _ (List.mem_of_getElem? (i := 161) rfl)) (hw _ (List.mem_of_getElem? (i := 130) rfl)) (hw _ (List.mem_of_getElem? (i := 162) rfl)) (by decide) (rmah2 l Z a0 hw ra k x0 x1 h2 P2.old Y3_ra Na) (as := [(.ref ra)]) (rest := [(.ref ao)]) pd_13 rfl rfl (wd := 1) rfl rfl dci2_11 all0 (by decide) (by decide) (by decide) (by decide) (fun T4 h4 v4 P4 K4 hQ4 => ?_)
  obtain ⟨r4, rfl, rfl⟩ := hQ4
  show OwnDone p e below _ (T4.setTop (mkF m 14 #[.val (.ref ao), .val (.ref ra), .unset, .unset, .unset, .unset, .unset, .unset, .unset] [(.int r4), (.ref ao)]))
  refine own_putO (ty := .int) C P4 (hw _ (List.mem_of_getElem? (i := 172) rfl)) Via.refl O2 (own_laid4 hw) 1 rfl rfl (Or.inr ⟨(hw _ (List.mem_of_getElem? (i := 173) rfl)), rfl, rfl⟩) (hw _ (List.mem_of_getElem? (i := 144) rfl)) (by decide) rfl rfl (Or.inl (List.mem_of_getElem? (i := 0) rfl)) dci2_14 (vs' := [(.ref ra), (.int r4), (.long (0 : Int64)), (.long (0 : Int64))]) rfl (fun T5 h5 P5 K5 O5 => ?_)
  have Y6_ra := Y3_ra.keep K5 (ninS (Ne.symm nar) nin0)
  show OwnDone p e below _ (T5.setTop (mkF m 17 #[.val (.ref ao), .val (.ref ra), .unset, .unset, .unset, .unset, .unset, .unset, .unset] []))
  refine OwnDone.go (A := (T5.setTop (mkF m 29 #[.val (.ref ao), .val (.ref ra), .val (.long (0 : Int64)), .second, .val (.long (0 : Int64)), .second, .val (.int (0 : Int32)), .unset, .unset] [(.int (2 : Int32)), (.int (0 : Int32))]))) (fun tQ kQ => ?_) ?_
  · refine XT.lconst P5.here hx rfl (hb hby dci2_17) ?_
    show Steps p.tables e below (T5.setTop (mkF m 18 #[.val (.ref ao), .val (.ref ra), .unset, .unset, .unset, .unset, .unset, .unset, .unset] [(.long (0 : Int64))])) _
    refine XT.lstoreN P5.here hx rfl (hb hby dci2_18) rfl (l' := #[.val (.ref ao), .val (.ref ra), .val (.long (0 : Int64)), .second, .unset, .unset, .unset, .unset, .unset]) rfl ?_
    show Steps p.tables e below (T5.setTop (mkF m 19 #[.val (.ref ao), .val (.ref ra), .val (.long (0 : Int64)), .second, .unset, .unset, .unset, .unset, .unset] [])) _
    refine XT.lconst P5.here hx rfl (hb hby dci2_19) ?_
    show Steps p.tables e below (T5.setTop (mkF m 20 #[.val (.ref ao), .val (.ref ra), .val (.long (0 : Int64)), .second, .unset, .unset, .unset, .unset, .unset] [(.long (0 : Int64))])) _
    refine XT.lstore P5.here hx rfl (hb hby dci2_20) rfl (l' := #[.val (.ref ao), .val (.ref ra), .val (.long (0 : Int64)), .second, .val (.long (0 : Int64)), .second, .unset, .unset, .unset]) rfl ?_
    show Steps p.tables e below (T5.setTop (mkF m 22 #[.val (.ref ao), .val (.ref ra), .val (.long (0 : Int64)), .second, .val (.long (0 : Int64)), .second, .unset, .unset, .unset] [])) _
    refine XS.iconst P5.here hx rfl (hb hby dci2_22) ?_
    show Steps p.tables e below (T5.setTop (mkF m 23 #[.val (.ref ao), .val (.ref ra), .val (.long (0 : Int64)), .second, .val (.long (0 : Int64)), .second, .unset, .unset, .unset] [(.int (0 : Int32))])) _
    refine XS.istore P5.here hx rfl (hb hby dci2_23) rfl (l' := #[.val (.ref ao), .val (.ref ra), .val (.long (0 : Int64)), .second, .val (.long (0 : Int64)), .second, .val (.int (0 : Int32)), .unset, .unset]) rfl ?_
    show Steps p.tables e below (T5.setTop (mkF m 25 #[.val (.ref ao), .val (.ref ra), .val (.long (0 : Int64)), .second, .val (.long (0 : Int64)), .second, .val (.int (0 : Int32)), .unset, .unset] [])) _
    refine XS.iload P5.here hx rfl (hb hby dci2_25) rfl ?_
    show Steps p.tables e below (T5.setTop (mkF m 27 #[.val (.ref ao), .val (.ref ra), .val (.long (0 : Int64)), .second, .val (.long (0 : Int64)), .second, .val (.int (0 : Int32)), .unset, .unset] [(.int (0 : Int32))])) _
    refine XS.aloadN P5.here hx rfl (hb hby dci2_27) rfl rfl ?_
    show Steps p.tables e below (T5.setTop (mkF m 28 #[.val (.ref ao), .val (.ref ra), .val (.long (0 : Int64)), .second, .val (.long (0 : Int64)), .second, .val (.int (0 : Int32)), .unset, .unset] [(.ref ra), (.int (0 : Int32))])) _
    refine own_alen C P5 Y6_ra dci2_28 ?_
    show Steps p.tables e below (T5.setTop (mkF m 29 #[.val (.ref ao), .val (.ref ra), .val (.long (0 : Int64)), .second, .val (.long (0 : Int64)), .second, .val (.int (0 : Int32)), .unset, .unset] [(.int (2 : Int32)), (.int (0 : Int32))])) _
    exact kQ
  show OwnDone p e below _ (T5.setTop (mkF m 29 #[.val (.ref ao), .val (.ref ra), .val (.long (0 : Int64)), .second, .val (.long (0 : Int64)), .second, .val (.int (0 : Int32)), .unset, .unset] [(.int (2 : Int32)), (.int (0 : Int32))]))
  refine OwnDone.go (A := (T5.setTop (mkF m 32 #[.val (.ref ao), .val (.ref ra), .val (.long (0 : Int64)), .second, .val (.long (0 : Int64)), .second, .val (.int (0 : Int32)), .unset, .unset] []))) (fun tQ kQ => XS.icmpNo P5.here hx rfl (hb hby dci2_29) rfl (XT.ii_ge_f (by decide)) kQ) ?_
  show OwnDone p e below _ (T5.setTop (mkF m 32 #[.val (.ref ao), .val (.ref ra), .val (.long (0 : Int64)), .second, .val (.long (0 : Int64)), .second, .val (.int (0 : Int32)), .unset, .unset] []))
  refine OwnDone.go (A := (T5.setTop (mkF m 39 #[.val (.ref ao), .val (.ref ra), .val (.long (0 : Int64)), .second, .val (.long (0 : Int64)), .second, .val (.int (0 : Int32)), .unset, .unset] [(.int (128 : Int32)), (.int x0)]))) (fun tQ kQ => ?_) ?_
  · refine XS.aloadN P5.here hx rfl (hb hby dci2_32) rfl rfl ?_
    show Steps p.tables e below (T5.setTop (mkF m 33 #[.val (.ref ao), .val (.ref ra), .val (.long (0 : Int64)), .second, .val (.long (0 : Int64)), .second, .val (.int (0 : Int32)), .unset, .unset] [(.ref ra)])) _
    refine XS.iload P5.here hx rfl (hb hby dci2_33) rfl ?_
    show Steps p.tables e below (T5.setTop (mkF m 35 #[.val (.ref ao), .val (.ref ra), .val (.long (0 : Int64)), .second, .val (.long (0 : Int64)), .second, .val (.int (0 : Int32)), .unset, .unset] [(.int (0 : Int32)), (.ref ra)])) _
    refine own_iaload C P5 Y6_ra (by decide) rfl dci2_35 ?_
    show Steps p.tables e below (T5.setTop (mkF m 36 #[.val (.ref ao), .val (.ref ra), .val (.long (0 : Int64)), .second, .val (.long (0 : Int64)), .second, .val (.int (0 : Int32)), .unset, .unset] [(.int x0)])) _
    refine XS.sipush P5.here hx rfl (hb hby dci2_36) ?_
    show Steps p.tables e below (T5.setTop (mkF m 39 #[.val (.ref ao), .val (.ref ra), .val (.long (0 : Int64)), .second, .val (.long (0 : Int64)), .second, .val (.int (0 : Int32)), .unset, .unset] [(.int (128 : Int32)), (.int x0)])) _
    exact kQ
  show OwnDone p e below _ (T5.setTop (mkF m 39 #[.val (.ref ao), .val (.ref ra), .val (.long (0 : Int64)), .second, .val (.long (0 : Int64)), .second, .val (.int (0 : Int32)), .unset, .unset] [(.int (128 : Int32)), (.int x0)]))
  by_cases hc39 : x0 < (128 : Int32)
  · refine OwnDone.go (A := (T5.setTop (mkF m 42 #[.val (.ref ao), .val (.ref ra), .val (.long (0 : Int64)), .second, .val (.long (0 : Int64)), .second, .val (.int (0 : Int32)), .unset, .unset] []))) (fun tQ kQ => XS.icmpNo P5.here hx rfl (hb hby dci2_39) rfl (XT.ii_ge_f hc39) kQ) ?_
    show OwnDone p e below _ (T5.setTop (mkF m 42 #[.val (.ref ao), .val (.ref ra), .val (.long (0 : Int64)), .second, .val (.long (0 : Int64)), .second, .val (.int (0 : Int32)), .unset, .unset] []))
    refine OwnDone.go (A := (T5.setTop (mkF m 50 #[.val (.ref ao), .val (.ref ra), .val (.long (0 : Int64)), .second, .val (.long (0 : Int64)), .second, .val (.int (0 : Int32)), .unset, .unset] [(.int (127 : Int32)), (.int x1)]))) (fun tQ kQ => ?_) ?_
    · refine XS.aloadN P5.here hx rfl (hb hby dci2_42) rfl rfl ?_
      show Steps p.tables e below (T5.setTop (mkF m 43 #[.val (.ref ao), .val (.ref ra), .val (.long (0 : Int64)), .second, .val (.long (0 : Int64)), .second, .val (.int (0 : Int32)), .unset, .unset] [(.ref ra)])) _
      refine XS.iload P5.here hx rfl (hb hby dci2_43) rfl ?_
      show Steps p.tables e below (T5.setTop (mkF m 45 #[.val (.ref ao), .val (.ref ra), .val (.long (0 : Int64)), .second, .val (.long (0 : Int64)), .second, .val (.int (0 : Int32)), .unset, .unset] [(.int (0 : Int32)), (.ref ra)])) _
      refine XS.iconst P5.here hx rfl (hb hby dci2_45) ?_
      show Steps p.tables e below (T5.setTop (mkF m 46 #[.val (.ref ao), .val (.ref ra), .val (.long (0 : Int64)), .second, .val (.long (0 : Int64)), .second, .val (.int (0 : Int32)), .unset, .unset] [(.int (1 : Int32)), (.int (0 : Int32)), (.ref ra)])) _
      refine XS.iadd P5.here hx rfl (hb hby dci2_46) rfl ?_
      show Steps p.tables e below (T5.setTop (mkF m 47 #[.val (.ref ao), .val (.ref ra), .val (.long (0 : Int64)), .second, .val (.long (0 : Int64)), .second, .val (.int (0 : Int32)), .unset, .unset] [(.int (1 : Int32)), (.ref ra)])) _
      refine own_iaload C P5 Y6_ra (by decide) rfl dci2_47 ?_
      show Steps p.tables e below (T5.setTop (mkF m 48 #[.val (.ref ao), .val (.ref ra), .val (.long (0 : Int64)), .second, .val (.long (0 : Int64)), .second, .val (.int (0 : Int32)), .unset, .unset] [(.int x1)])) _
      refine XS.bipush P5.here hx rfl (hb hby dci2_48) ?_
      show Steps p.tables e below (T5.setTop (mkF m 50 #[.val (.ref ao), .val (.ref ra), .val (.long (0 : Int64)), .second, .val (.long (0 : Int64)), .second, .val (.int (0 : Int32)), .unset, .unset] [(.int (127 : Int32)), (.int x1)])) _
      exact kQ
    show OwnDone p e below _ (T5.setTop (mkF m 50 #[.val (.ref ao), .val (.ref ra), .val (.long (0 : Int64)), .second, .val (.long (0 : Int64)), .second, .val (.int (0 : Int32)), .unset, .unset] [(.int (127 : Int32)), (.int x1)]))
    refine own_callS (y := (⟨"java/lang/Math", "min", "(II)I"⟩ : MethodName)) C P5 (hw _ (List.mem_of_getElem? (i := 174) rfl)) (hw _ (List.mem_of_getElem? (i := 7) rfl)) (hw _ (List.mem_of_getElem? (i := 8) rfl)) (hw _ (List.mem_of_getElem? (i := 9) rfl)) (by decide) (rmmin l Z a0 hw x1 (127 : Int32) h5 P5.old) (as := [(.int x1), (.int (127 : Int32))]) (rest := []) pd_10 rfl rfl (wd := 0) rfl rfl dci2_50 all0 (by decide) (by decide) (by decide) (by decide) (fun T7 h7 v7 P7 K7 hQ7 => ?_)
    obtain ⟨r7, rfl, mn7, rfl⟩ := hQ7
    show OwnDone p e below _ (T7.setTop (mkF m 53 #[.val (.ref ao), .val (.ref ra), .val (.long (0 : Int64)), .second, .val (.long (0 : Int64)), .second, .val (.int (0 : Int32)), .unset, .unset] [(.int r7)]))
    refine OwnDone.go (A := (T7.setTop (mkF m 61 #[.val (.ref ao), .val (.ref ra), .val (.long (0 : Int64)), .second, .val (.long (0 : Int64)), .second, .val (.int (0 : Int32)), .val (.int r7), .val (.int x0)] []))) (fun tQ kQ => ?_) ?_
    · refine XS.istore P7.here hx rfl (hb hby dci2_53) rfl (l' := #[.val (.ref ao), .val (.ref ra), .val (.long (0 : Int64)), .second, .val (.long (0 : Int64)), .second, .val (.int (0 : Int32)), .val (.int r7), .unset]) rfl ?_
      show Steps p.tables e below (T7.setTop (mkF m 55 #[.val (.ref ao), .val (.ref ra), .val (.long (0 : Int64)), .second, .val (.long (0 : Int64)), .second, .val (.int (0 : Int32)), .val (.int r7), .unset] [])) _
      refine XS.aloadN P7.here hx rfl (hb hby dci2_55) rfl rfl ?_
      show Steps p.tables e below (T7.setTop (mkF m 56 #[.val (.ref ao), .val (.ref ra), .val (.long (0 : Int64)), .second, .val (.long (0 : Int64)), .second, .val (.int (0 : Int32)), .val (.int r7), .unset] [(.ref ra)])) _
      refine XS.iload P7.here hx rfl (hb hby dci2_56) rfl ?_
      show Steps p.tables e below (T7.setTop (mkF m 58 #[.val (.ref ao), .val (.ref ra), .val (.long (0 : Int64)), .second, .val (.long (0 : Int64)), .second, .val (.int (0 : Int32)), .val (.int r7), .unset] [(.int (0 : Int32)), (.ref ra)])) _
      refine own_iaload C P7 Y6_ra (by decide) rfl dci2_58 ?_
      show Steps p.tables e below (T7.setTop (mkF m 59 #[.val (.ref ao), .val (.ref ra), .val (.long (0 : Int64)), .second, .val (.long (0 : Int64)), .second, .val (.int (0 : Int32)), .val (.int r7), .unset] [(.int x0)])) _
      refine XS.istore P7.here hx rfl (hb hby dci2_59) rfl (l' := #[.val (.ref ao), .val (.ref ra), .val (.long (0 : Int64)), .second, .val (.long (0 : Int64)), .second, .val (.int (0 : Int32)), .val (.int r7), .val (.int x0)]) rfl ?_
      show Steps p.tables e below (T7.setTop (mkF m 61 #[.val (.ref ao), .val (.ref ra), .val (.long (0 : Int64)), .second, .val (.long (0 : Int64)), .second, .val (.int (0 : Int32)), .val (.int r7), .val (.int x0)] [])) _
      exact kQ
    show OwnDone p e below _ (T7.setTop (mkF m 61 #[.val (.ref ao), .val (.ref ra), .val (.long (0 : Int64)), .second, .val (.long (0 : Int64)), .second, .val (.int (0 : Int32)), .val (.int r7), .val (.int x0)] []))
    refine cilLoop C P7 (own_e127 mn7) (fun lo8 hi8 cc8 => ?_) 4294967296 _ _ _ (own_mea mn7)
    show OwnDone p e below _ (T7.setTop (mkF m 103 #[.val (.ref ao), .val (.ref ra), .val (.long lo8), .second, .val (.long hi8), .second, .val (.int (0 : Int32)), .val (.int r7), .val (.int cc8)] []))
    refine OwnDone.go (A := (T7.setTop (mkF m 29 #[.val (.ref ao), .val (.ref ra), .val (.long lo8), .second, .val (.long hi8), .second, .val (.int (2 : Int32)), .val (.int r7), .val (.int cc8)] [(.int (2 : Int32)), (.int (2 : Int32))]))) (fun tQ kQ => ?_) ?_
    · refine XS.iinc P7.here hx rfl (hb hby dci2_103) rfl (l' := #[.val (.ref ao), .val (.ref ra), .val (.long lo8), .second, .val (.long hi8), .second, .val (.int (2 : Int32)), .val (.int r7), .val (.int cc8)]) rfl ?_
      show Steps p.tables e below (T7.setTop (mkF m 106 #[.val (.ref ao), .val (.ref ra), .val (.long lo8), .second, .val (.long hi8), .second, .val (.int (2 : Int32)), .val (.int r7), .val (.int cc8)] [])) _
      refine XS.goto P7.here hx rfl (pc0 := 106) (pc' := 25) rfl (hb hby dci2_106) (by decide) (by decide) ?_
      show Steps p.tables e below (T7.setTop (mkF m 25 #[.val (.ref ao), .val (.ref ra), .val (.long lo8), .second, .val (.long hi8), .second, .val (.int (2 : Int32)), .val (.int r7), .val (.int cc8)] [])) _
      refine XS.iload P7.here hx rfl (hb hby dci2_25) rfl ?_
      show Steps p.tables e below (T7.setTop (mkF m 27 #[.val (.ref ao), .val (.ref ra), .val (.long lo8), .second, .val (.long hi8), .second, .val (.int (2 : Int32)), .val (.int r7), .val (.int cc8)] [(.int (2 : Int32))])) _
      refine XS.aloadN P7.here hx rfl (hb hby dci2_27) rfl rfl ?_
      show Steps p.tables e below (T7.setTop (mkF m 28 #[.val (.ref ao), .val (.ref ra), .val (.long lo8), .second, .val (.long hi8), .second, .val (.int (2 : Int32)), .val (.int r7), .val (.int cc8)] [(.ref ra), (.int (2 : Int32))])) _
      refine own_alen C P7 Y6_ra dci2_28 ?_
      show Steps p.tables e below (T7.setTop (mkF m 29 #[.val (.ref ao), .val (.ref ra), .val (.long lo8), .second, .val (.long hi8), .second, .val (.int (2 : Int32)), .val (.int r7), .val (.int cc8)] [(.int (2 : Int32)), (.int (2 : Int32))])) _
      exact kQ
    show OwnDone p e below _ (T7.setTop (mkF m 29 #[.val (.ref ao), .val (.ref ra), .val (.long lo8), .second, .val (.long hi8), .second, .val (.int (2 : Int32)), .val (.int r7), .val (.int cc8)] [(.int (2 : Int32)), (.int (2 : Int32))]))
    refine OwnDone.go (A := (T7.setTop (mkF m 109 #[.val (.ref ao), .val (.ref ra), .val (.long lo8), .second, .val (.long hi8), .second, .val (.int (2 : Int32)), .val (.int r7), .val (.int cc8)] []))) (fun tQ kQ => XS.icmpYes P7.here hx rfl (pc0 := 29) (pc' := 109) rfl (hb hby dci2_29) rfl (XT.ii_ge_t (by decide)) (by decide) (by decide) kQ) ?_
    show OwnDone p e below _ (T7.setTop (mkF m 109 #[.val (.ref ao), .val (.ref ra), .val (.long lo8), .second, .val (.long hi8), .second, .val (.int (2 : Int32)), .val (.int r7), .val (.int cc8)] []))
    refine OwnDone.go (A := (T7.setTop (mkF m 111 #[.val (.ref ao), .val (.ref ra), .val (.long lo8), .second, .val (.long hi8), .second, .val (.int (2 : Int32)), .val (.int r7), .val (.int cc8)] [(.long lo8), (.ref ao)]))) (fun tQ kQ => ?_) ?_
    · refine XS.aloadN P7.here hx rfl (hb hby dci2_109) rfl rfl ?_
      show Steps p.tables e below (T7.setTop (mkF m 110 #[.val (.ref ao), .val (.ref ra), .val (.long lo8), .second, .val (.long hi8), .second, .val (.int (2 : Int32)), .val (.int r7), .val (.int cc8)] [(.ref ao)])) _
      refine XT.lloadN P7.here hx rfl (hb hby dci2_110) rfl ?_
      show Steps p.tables e below (T7.setTop (mkF m 111 #[.val (.ref ao), .val (.ref ra), .val (.long lo8), .second, .val (.long hi8), .second, .val (.int (2 : Int32)), .val (.int r7), .val (.int cc8)] [(.long lo8), (.ref ao)])) _
      exact kQ
    show OwnDone p e below _ (T7.setTop (mkF m 111 #[.val (.ref ao), .val (.ref ra), .val (.long lo8), .second, .val (.long hi8), .second, .val (.int (2 : Int32)), .val (.int r7), .val (.int cc8)] [(.long lo8), (.ref ao)]))
    refine own_putO (ty := .long) C P7 (hw _ (List.mem_of_getElem? (i := 175) rfl)) Via.refl O5 (own_laid4 hw) 2 rfl rfl (Or.inr ⟨(hw _ (List.mem_of_getElem? (i := 176) rfl)), rfl, rfl⟩) (hw _ (List.mem_of_getElem? (i := 144) rfl)) (by decide) rfl rfl (Or.inl (List.mem_of_getElem? (i := 0) rfl)) dci2_111 (vs' := [(.ref ra), (.int r4), (.long lo8), (.long (0 : Int64))]) rfl (fun T9 h9 P9 K9 O9 => ?_)
    have Y10_ra := Y6_ra.keep K9 (ninS (Ne.symm nar) nin0)
    show OwnDone p e below _ (T9.setTop (mkF m 114 #[.val (.ref ao), .val (.ref ra), .val (.long lo8), .second, .val (.long hi8), .second, .val (.int (2 : Int32)), .val (.int r7), .val (.int cc8)] []))
    refine OwnDone.go (A := (T9.setTop (mkF m 117 #[.val (.ref ao), .val (.ref ra), .val (.long lo8), .second, .val (.long hi8), .second, .val (.int (2 : Int32)), .val (.int r7), .val (.int cc8)] [(.long hi8), (.ref ao)]))) (fun tQ kQ => ?_) ?_
    · refine XS.aloadN P9.here hx rfl (hb hby dci2_114) rfl rfl ?_
      show Steps p.tables e below (T9.setTop (mkF m 115 #[.val (.ref ao), .val (.ref ra), .val (.long lo8), .second, .val (.long hi8), .second, .val (.int (2 : Int32)), .val (.int r7), .val (.int cc8)] [(.ref ao)])) _
      refine XT.lload P9.here hx rfl (hb hby dci2_115) rfl ?_
      show Steps p.tables e below (T9.setTop (mkF m 117 #[.val (.ref ao), .val (.ref ra), .val (.long lo8), .second, .val (.long hi8), .second, .val (.int (2 : Int32)), .val (.int r7), .val (.int cc8)] [(.long hi8), (.ref ao)])) _
      exact kQ
    show OwnDone p e below _ (T9.setTop (mkF m 117 #[.val (.ref ao), .val (.ref ra), .val (.long lo8), .second, .val (.long hi8), .second, .val (.int (2 : Int32)), .val (.int r7), .val (.int cc8)] [(.long hi8), (.ref ao)]))
    refine own_putO (ty := .long) C P9 (hw _ (List.mem_of_getElem? (i := 177) rfl)) Via.refl O9 (own_laid4 hw) 3 rfl rfl (Or.inr ⟨(hw _ (List.mem_of_getElem? (i := 178) rfl)), rfl, rfl⟩) (hw _ (List.mem_of_getElem? (i := 144) rfl)) (by decide) rfl rfl (Or.inl (List.mem_of_getElem? (i := 0) rfl)) dci2_117 (vs' := [(.ref ra), (.int r4), (.long lo8), (.long hi8)]) rfl (fun T11 h11 P11 K11 O11 => ?_)
    have Y12_ra := Y10_ra.keep K11 (ninS (Ne.symm nar) nin0)
    show OwnDone p e below _ (T11.setTop (mkF m 120 #[.val (.ref ao), .val (.ref ra), .val (.long lo8), .second, .val (.long hi8), .second, .val (.int (2 : Int32)), .val (.int r7), .val (.int cc8)] []))
    refine own_retV C P11 dci2_120 (by decide) (by decide) ⟨rfl, _, _, _, O11⟩
  · refine OwnDone.go (A := (T5.setTop (mkF m 109 #[.val (.ref ao), .val (.ref ra), .val (.long (0 : Int64)), .second, .val (.long (0 : Int64)), .second, .val (.int (0 : Int32)), .unset, .unset] []))) (fun tQ kQ => XS.icmpYes P5.here hx rfl (pc0 := 39) (pc' := 109) rfl (hb hby dci2_39) rfl (XT.ii_ge_t hc39) (by decide) (by decide) kQ) ?_
    show OwnDone p e below _ (T5.setTop (mkF m 109 #[.val (.ref ao), .val (.ref ra), .val (.long (0 : Int64)), .second, .val (.long (0 : Int64)), .second, .val (.int (0 : Int32)), .unset, .unset] []))
    refine OwnDone.go (A := (T5.setTop (mkF m 111 #[.val (.ref ao), .val (.ref ra), .val (.long (0 : Int64)), .second, .val (.long (0 : Int64)), .second, .val (.int (0 : Int32)), .unset, .unset] [(.long (0 : Int64)), (.ref ao)]))) (fun tQ kQ => ?_) ?_
    · refine XS.aloadN P5.here hx rfl (hb hby dci2_109) rfl rfl ?_
      show Steps p.tables e below (T5.setTop (mkF m 110 #[.val (.ref ao), .val (.ref ra), .val (.long (0 : Int64)), .second, .val (.long (0 : Int64)), .second, .val (.int (0 : Int32)), .unset, .unset] [(.ref ao)])) _
      refine XT.lloadN P5.here hx rfl (hb hby dci2_110) rfl ?_
      show Steps p.tables e below (T5.setTop (mkF m 111 #[.val (.ref ao), .val (.ref ra), .val (.long (0 : Int64)), .second, .val (.long (0 : Int64)), .second, .val (.int (0 : Int32)), .unset, .unset] [(.long (0 : Int64)), (.ref ao)])) _
      exact kQ
    show OwnDone p e below _ (T5.setTop (mkF m 111 #[.val (.ref ao), .val (.ref ra), .val (.long (0 : Int64)), .second, .val (.long (0 : Int64)), .second, .val (.int (0 : Int32)), .unset, .unset] [(.long (0 : Int64)), (.ref ao)]))
    refine own_putO (ty := .long) C P5 (hw _ (List.mem_of_getElem? (i := 175) rfl)) Via.refl O5 (own_laid4 hw) 2 rfl rfl (Or.inr ⟨(hw _ (List.mem_of_getElem? (i := 176) rfl)), rfl, rfl⟩) (hw _ (List.mem_of_getElem? (i := 144) rfl)) (by decide) rfl rfl (Or.inl (List.mem_of_getElem? (i := 0) rfl)) dci2_111 (vs' := [(.ref ra), (.int r4), (.long (0 : Int64)), (.long (0 : Int64))]) rfl (fun T13 h13 P13 K13 O13 => ?_)
    have Y14_ra := Y6_ra.keep K13 (ninS (Ne.symm nar) nin0)
    show OwnDone p e below _ (T13.setTop (mkF m 114 #[.val (.ref ao), .val (.ref ra), .val (.long (0 : Int64)), .second, .val (.long (0 : Int64)), .second, .val (.int (0 : Int32)), .unset, .unset] []))
    refine OwnDone.go (A := (T13.setTop (mkF m 117 #[.val (.ref ao), .val (.ref ra), .val (.long (0 : Int64)), .second, .val (.long (0 : Int64)), .second, .val (.int (0 : Int32)), .unset, .unset] [(.long (0 : Int64)), (.ref ao)]))) (fun tQ kQ => ?_) ?_
    · refine XS.aloadN P13.here hx rfl (hb hby dci2_114) rfl rfl ?_
      show Steps p.tables e below (T13.setTop (mkF m 115 #[.val (.ref ao), .val (.ref ra), .val (.long (0 : Int64)), .second, .val (.long (0 : Int64)), .second, .val (.int (0 : Int32)), .unset, .unset] [(.ref ao)])) _
      refine XT.lload P13.here hx rfl (hb hby dci2_115) rfl ?_
      show Steps p.tables e below (T13.setTop (mkF m 117 #[.val (.ref ao), .val (.ref ra), .val (.long (0 : Int64)), .second, .val (.long (0 : Int64)), .second, .val (.int (0 : Int32)), .unset, .unset] [(.long (0 : Int64)), (.ref ao)])) _
      exact kQ
    show OwnDone p e below _ (T13.setTop (mkF m 117 #[.val (.ref ao), .val (.ref ra), .val (.long (0 : Int64)), .second, .val (.long (0 : Int64)), .second, .val (.int (0 : Int32)), .unset, .unset] [(.long (0 : Int64)), (.ref ao)]))
    refine own_putO (ty := .long) C P13 (hw _ (List.mem_of_getElem? (i := 177) rfl)) Via.refl O13 (own_laid4 hw) 3 rfl rfl (Or.inr ⟨(hw _ (List.mem_of_getElem? (i := 178) rfl)), rfl, rfl⟩) (hw _ (List.mem_of_getElem? (i := 144) rfl)) (by decide) rfl rfl (Or.inl (List.mem_of_getElem? (i := 0) rfl)) dci2_117 (vs' := [(.ref ra), (.int r4), (.long (0 : Int64)), (.long (0 : Int64))]) rfl (fun T15 h15 P15 K15 O15 => ?_)
    have Y16_ra := Y14_ra.keep K15 (ninS (Ne.symm nar) nin0)
    show OwnDone p e below _ (T15.setTop (mkF m 120 #[.val (.ref ao), .val (.ref ra), .val (.long (0 : Int64)), .second, .val (.long (0 : Int64)), .second, .val (.int (0 : Int32)), .unset, .unset] []))
    refine own_retV C P15 dci2_120 (by decide) (by decide) ⟨rfl, _, _, _, O15⟩
theorem dci4_0 : decode prog_12_method_1_code 0 = .ok (.aload_n 0, 1) := by decide +kernel
theorem dci4_1 : decode prog_12_method_1_code 1 = .ok (.invokespecial 1, 3) := by decide +kernel
theorem dci4_4 : decode prog_12_method_1_code 4 = .ok (.aload_n 0, 1) := by decide +kernel
theorem dci4_5 : decode prog_12_method_1_code 5 = .ok (.aload_n 1, 1) := by decide +kernel
theorem dci4_6 : decode prog_12_method_1_code 6 = .ok (.putfield 7, 3) := by decide +kernel
theorem dci4_9 : decode prog_12_method_1_code 9 = .ok (.aload_n 0, 1) := by decide +kernel
theorem dci4_10 : decode prog_12_method_1_code 10 = .ok (.aload_n 1, 1) := by decide +kernel
theorem dci4_11 : decode prog_12_method_1_code 11 = .ok (.invokestatic 13, 3) := by decide +kernel
theorem dci4_14 : decode prog_12_method_1_code 14 = .ok (.putfield 19, 3) := by decide +kernel
theorem dci4_17 : decode prog_12_method_1_code 17 = .ok (.lconst 0, 1) := by decide +kernel
theorem dci4_18 : decode prog_12_method_1_code 18 = .ok (.lstore_n 2, 1) := by decide +kernel
theorem dci4_19 : decode prog_12_method_1_code 19 = .ok (.lconst 0, 1) := by decide +kernel
theorem dci4_20 : decode prog_12_method_1_code 20 = .ok (.lstore 4, 2) := by decide +kernel
theorem dci4_22 : decode prog_12_method_1_code 22 = .ok (.iconst 0, 1) := by decide +kernel
theorem dci4_23 : decode prog_12_method_1_code 23 = .ok (.istore 6, 2) := by decide +kernel
theorem dci4_25 : decode prog_12_method_1_code 25 = .ok (.iload 6, 2) := by decide +kernel
theorem dci4_27 : decode prog_12_method_1_code 27 = .ok (.aload_n 1, 1) := by decide +kernel
theorem dci4_28 : decode prog_12_method_1_code 28 = .ok (.arraylength, 1) := by decide +kernel
theorem dci4_29 : decode prog_12_method_1_code 29 = .ok (.if_icmp .ge 80, 3) := by decide +kernel
theorem dci4_32 : decode prog_12_method_1_code 32 = .ok (.aload_n 1, 1) := by decide +kernel
theorem dci4_33 : decode prog_12_method_1_code 33 = .ok (.iload 6, 2) := by decide +kernel
theorem dci4_35 : decode prog_12_method_1_code 35 = .ok (.iaload, 1) := by decide +kernel
theorem dci4_36 : decode prog_12_method_1_code 36 = .ok (.sipush 128, 3) := by decide +kernel
theorem dci4_39 : decode prog_12_method_1_code 39 = .ok (.if_icmp .ge 70, 3) := by decide +kernel
theorem dci4_42 : decode prog_12_method_1_code 42 = .ok (.aload_n 1, 1) := by decide +kernel
theorem dci4_43 : decode prog_12_method_1_code 43 = .ok (.iload 6, 2) := by decide +kernel
theorem dci4_45 : decode prog_12_method_1_code 45 = .ok (.iconst 1, 1) := by decide +kernel
theorem dci4_46 : decode prog_12_method_1_code 46 = .ok (.iadd, 1) := by decide +kernel
theorem dci4_47 : decode prog_12_method_1_code 47 = .ok (.iaload, 1) := by decide +kernel
theorem dci4_48 : decode prog_12_method_1_code 48 = .ok (.bipush 127, 2) := by decide +kernel
theorem dci4_50 : decode prog_12_method_1_code 50 = .ok (.invokestatic 23, 3) := by decide +kernel
theorem dci4_53 : decode prog_12_method_1_code 53 = .ok (.istore 7, 2) := by decide +kernel
theorem dci4_55 : decode prog_12_method_1_code 55 = .ok (.aload_n 1, 1) := by decide +kernel
theorem dci4_56 : decode prog_12_method_1_code 56 = .ok (.iload 6, 2) := by decide +kernel
theorem dci4_58 : decode prog_12_method_1_code 58 = .ok (.iaload, 1) := by decide +kernel
theorem dci4_59 : decode prog_12_method_1_code 59 = .ok (.istore 8, 2) := by decide +kernel
theorem dci4_103 : decode prog_12_method_1_code 103 = .ok (.iinc 6 2, 3) := by decide +kernel
theorem dci4_106 : decode prog_12_method_1_code 106 = .ok (.goto (-81), 3) := by decide +kernel
theorem dci4_109 : decode prog_12_method_1_code 109 = .ok (.aload_n 0, 1) := by decide +kernel
theorem dci4_110 : decode prog_12_method_1_code 110 = .ok (.lload_n 2, 1) := by decide +kernel
theorem dci4_111 : decode prog_12_method_1_code 111 = .ok (.putfield 29, 3) := by decide +kernel
theorem dci4_114 : decode prog_12_method_1_code 114 = .ok (.aload_n 0, 1) := by decide +kernel
theorem dci4_115 : decode prog_12_method_1_code 115 = .ok (.lload 4, 2) := by decide +kernel
theorem dci4_117 : decode prog_12_method_1_code 117 = .ok (.putfield 33, 3) := by decide +kernel
theorem dci4_120 : decode prog_12_method_1_code 120 = .ok (.return_, 1) := by decide +kernel
theorem pnci4 : plainName "com/example/bounded_array/boundedarray/regex/CodePointSet" = true := by first | (simp [plainName, overriddenIn]; done) | decide +kernel
theorem efci4 (m : MethodId) (ao : Addr) (ra : Addr)  : entryFrame m #[(.ref ao), (.ref ra)] 9 = mkF m 0 #[.val (.ref ao), .val (.ref ra), .unset, .unset, .unset, .unset, .unset, .unset, .unset] [] := by first | (simp [entryFrame, mkF, argsToLocals, Value.category]; done) | rfl
set_option maxRecDepth 65536 in
set_option maxHeartbeats 40000000 in
theorem rmci4 (l : Launch) (Z : State) (a0 : Array Value) (hw : ∀ d ∈ tables_1, d.before a0 Z = true) (ao : Addr) (ra : Addr) (k : ClassId) (x0 x1 x2 x3 : Int32) (h0 : Heap) (hE : Ext Z.heap h0) (g_ao : Z.heap.size ≤ ao) (Oa : OwnObj Z h0 ao "com/example/bounded_array/boundedarray/regex/CodePointSet" own_lay4 [.null, (.int (0 : Int32)), (.long (0 : Int64)), (.long (0 : Int64))]) (Ya : OwnAry Z h0 ra k .int [(.int x0), (.int x1), (.int x2), (.int x3)]) (Na : Z.vm.findClass "[I" = some k) (nar : ao ≠ ra) :
    OwnMeets l (⟨"com/example/bounded_array/boundedarray/regex/CodePointSet", "<init>", "([I)V"⟩ : MethodName) prog_12_method_1_code 9 none ({ frames := 3, cells := 0, slots := 0, locals := 46 } : Room) Z [ao] #[(.ref ao), (.ref ra)] h0 (fun v h => v = none ∧ ∃ hs lo hi, OwnObj Z h ao "com/example/bounded_array/boundedarray/regex/CodePointSet" own_lay4 [(.ref ra), (.int hs), (.long lo), (.long hi)]) := by
  refine OwnMeets.of (plainFor_of_name pnci4) hE (allS g_ao all0) ?_
  intro p e s m below meth c T C P
  have hx := C.1
  have hby := C.2.2.2.2.1
  rw [show entryFrame m #[(.ref ao), (.ref ra)] 9 = _ from efci4 m ao ra]
  show OwnDone p e below _ (T.setTop (mkF m 0 #[.val (.ref ao), .val (.ref ra), .unset, .unset, .unset, .unset, .unset, .unset, .unset] []))
  refine OwnDone.go (A := (T.setTop (mkF m 1 #[.val (.ref ao), .val (.ref ra), .unset, .unset, .unset, .unset, .unset, .unset, .unset] [(.ref ao)]))) (fun tQ kQ => ?_) ?_
  · refine XS.aloadN P.here hx rfl (hb hby dci4_0) rfl rfl ?_
    show Steps p.tables e below (T.setTop (mkF m 1 #[.val (.ref ao), .val (.ref ra), .unset, .unset, .unset, .unset, .unset, .unset, .unset] [(.ref ao)])) _
    exact kQ
  show OwnDone p e below _ (T.setTop (mkF m 1 #[.val (.ref ao), .val (.ref ra), .unset, .unset, .unset, .unset, .unset, .unset, .unset] [(.ref ao)]))
  refine own_initO (wd := 0) (rest := []) C P (hw _ (List.mem_of_getElem? (i := 157) rfl)) (hw _ (List.mem_of_getElem? (i := 20) rfl)) (hw _ (List.mem_of_getElem? (i := 21) rfl)) rfl rfl dci4_1 (by decide) (by decide) (fun T1 P1 => ?_)
  show OwnDone p e below _ (T1.setTop (mkF m 4 #[.val (.ref ao), .val (.ref ra), .unset, .unset, .unset, .unset, .unset, .unset, .unset] []))
  refine OwnDone.go (A := (T1.setTop (mkF m 6 #[.val (.ref ao), .val (.ref ra), .unset, .unset, .unset, .unset, .unset, .unset, .unset] [(.ref ra), (.ref ao)]))) (fun tQ kQ => ?_) ?_
  · refine XS.aloadN P1.here hx rfl (hb hby dci4_4) rfl rfl ?_
    show Steps p.tables e below (T1.setTop (mkF m 5 #[.val (.ref ao), .val (.ref ra), .unset, .unset, .unset, .unset, .unset, .unset, .unset] [(.ref ao)])) _
    refine XS.aloadN P1.here hx rfl (hb hby dci4_5) rfl rfl ?_
    show Steps p.tables e below (T1.setTop (mkF m 6 #[.val (.ref ao), .val (.ref ra), .unset, .unset, .unset, .unset, .unset, .unset, .unset] [(.ref ra), (.ref ao)])) _
    exact kQ
  show OwnDone p e below _ (T1.setTop (mkF m 6 #[.val (.ref ao), .val (.ref ra), .unset, .unset, .unset, .unset, .unset, .unset, .unset] [(.ref ra), (.ref ao)]))
  refine own_putO (ty := (.array .int)) C P1 (hw _ (List.mem_of_getElem? (i := 158) rfl)) Via.refl Oa (own_laid4 hw) 0 rfl rfl (Or.inr ⟨(hw _ (List.mem_of_getElem? (i := 159) rfl)), rfl, rfl⟩) (hw _ (List.mem_of_getElem? (i := 144) rfl)) (by decide) rfl rfl (Or.inl (List.mem_of_getElem? (i := 0) rfl)) dci4_6 (vs' := [(.ref ra), (.int (0 : Int32)), (.long (0 : Int64)), (.long (0 : Int64))]) rfl (fun T2 h2 P2 K2 O2 => ?_)
  have Y3_ra := Ya.keep K2 (ninS (Ne.symm nar) nin0)
  show OwnDone p e below _ (T2.setTop (mkF m 9 #[.val (.ref ao), .val (.ref ra), .unset, .unset, .unset, .unset, .unset, .unset, .unset] []))
  refine OwnDone.go (A := (T2.setTop (mkF m 11 #[.val (.ref ao), .val (.ref ra), .unset, .unset, .unset, .unset, .unset, .unset, .unset] [(.ref ra), (.ref ao)]))) (fun tQ kQ => ?_) ?_
  · refine XS.aloadN P2.here hx rfl (hb hby dci4_9) rfl rfl ?_
    show Steps p.tables e below (T2.setTop (mkF m 10 #[.val (.ref ao), .val (.ref ra), .unset, .unset, .unset, .unset, .unset, .unset, .unset] [(.ref ao)])) _
    refine XS.aloadN P2.here hx rfl (hb hby dci4_10) rfl rfl ?_
    show Steps p.tables e below (T2.setTop (mkF m 11 #[.val (.ref ao), .val (.ref ra), .unset, .unset, .unset, .unset, .unset, .unset, .unset] [(.ref ra), (.ref ao)])) _
    exact kQ
  show OwnDone p e below _ (T2.setTop (mkF m 11 #[.val (.ref ao), .val (.ref ra), .unset, .unset, .unset, .unset, .unset, .unset, .unset] [(.ref ra), (.ref ao)]))
  refine own_callS (y := (⟨"java/util/Arrays", "hashCode", "([I)I"⟩ : MethodName)) C P2 (hw _ (List.mem_of_getElem? (i := 160) rfl)) (hw _ (List.mem_of_getElem? (i := 161) rfl)) (hw _ (List.mem_of_getElem? (i := 130) rfl)) (hw _ (List.mem_of_getElem? (i := 162) rfl)) (by decide) (rmah4 l Z a0 hw ra k x0 x1 x2 x3 h2 P2.old Y3_ra Na) (as := [(.ref ra)]) (rest := [(.ref ao)]) pd_13 rfl rfl (wd := 1) rfl rfl dci4_11 all0 (by decide) (by decide) (by decide) (by decide) (fun T4 h4 v4 P4 K4 hQ4 => ?_)
  obtain ⟨r4, rfl, rfl⟩ := hQ4
  show OwnDone p e below _ (T4.setTop (mkF m 14 #[.val (.ref ao), .val (.ref ra), .unset, .unset, .unset, .unset, .unset, .unset, .unset] [(.int r4), (.ref ao)]))
  refine own_putO (ty := .int) C P4 (hw _ (List.mem_of_getElem? (i := 172) rfl)) Via.refl O2 (own_laid4 hw) 1 rfl rfl (Or.inr ⟨(hw _ (List.mem_of_getElem? (i := 173) rfl)), rfl, rfl⟩) (hw _ (List.mem_of_getElem? (i := 144) rfl)) (by decide) rfl rfl (Or.inl (List.mem_of_getElem? (i := 0) rfl)) dci4_14 (vs' := [(.ref ra), (.int r4), (.long (0 : Int64)), (.long (0 : Int64))]) rfl (fun T5 h5 P5 K5 O5 => ?_)
  have Y6_ra := Y3_ra.keep K5 (ninS (Ne.symm nar) nin0)
  show OwnDone p e below _ (T5.setTop (mkF m 17 #[.val (.ref ao), .val (.ref ra), .unset, .unset, .unset, .unset, .unset, .unset, .unset] []))
  refine OwnDone.go (A := (T5.setTop (mkF m 29 #[.val (.ref ao), .val (.ref ra), .val (.long (0 : Int64)), .second, .val (.long (0 : Int64)), .second, .val (.int (0 : Int32)), .unset, .unset] [(.int (4 : Int32)), (.int (0 : Int32))]))) (fun tQ kQ => ?_) ?_
  · refine XT.lconst P5.here hx rfl (hb hby dci4_17) ?_
    show Steps p.tables e below (T5.setTop (mkF m 18 #[.val (.ref ao), .val (.ref ra), .unset, .unset, .unset, .unset, .unset, .unset, .unset] [(.long (0 : Int64))])) _
    refine XT.lstoreN P5.here hx rfl (hb hby dci4_18) rfl (l' := #[.val (.ref ao), .val (.ref ra), .val (.long (0 : Int64)), .second, .unset, .unset, .unset, .unset, .unset]) rfl ?_
    show Steps p.tables e below (T5.setTop (mkF m 19 #[.val (.ref ao), .val (.ref ra), .val (.long (0 : Int64)), .second, .unset, .unset, .unset, .unset, .unset] [])) _
    refine XT.lconst P5.here hx rfl (hb hby dci4_19) ?_
    show Steps p.tables e below (T5.setTop (mkF m 20 #[.val (.ref ao), .val (.ref ra), .val (.long (0 : Int64)), .second, .unset, .unset, .unset, .unset, .unset] [(.long (0 : Int64))])) _
    refine XT.lstore P5.here hx rfl (hb hby dci4_20) rfl (l' := #[.val (.ref ao), .val (.ref ra), .val (.long (0 : Int64)), .second, .val (.long (0 : Int64)), .second, .unset, .unset, .unset]) rfl ?_
    show Steps p.tables e below (T5.setTop (mkF m 22 #[.val (.ref ao), .val (.ref ra), .val (.long (0 : Int64)), .second, .val (.long (0 : Int64)), .second, .unset, .unset, .unset] [])) _
    refine XS.iconst P5.here hx rfl (hb hby dci4_22) ?_
    show Steps p.tables e below (T5.setTop (mkF m 23 #[.val (.ref ao), .val (.ref ra), .val (.long (0 : Int64)), .second, .val (.long (0 : Int64)), .second, .unset, .unset, .unset] [(.int (0 : Int32))])) _
    refine XS.istore P5.here hx rfl (hb hby dci4_23) rfl (l' := #[.val (.ref ao), .val (.ref ra), .val (.long (0 : Int64)), .second, .val (.long (0 : Int64)), .second, .val (.int (0 : Int32)), .unset, .unset]) rfl ?_
    show Steps p.tables e below (T5.setTop (mkF m 25 #[.val (.ref ao), .val (.ref ra), .val (.long (0 : Int64)), .second, .val (.long (0 : Int64)), .second, .val (.int (0 : Int32)), .unset, .unset] [])) _
    refine XS.iload P5.here hx rfl (hb hby dci4_25) rfl ?_
    show Steps p.tables e below (T5.setTop (mkF m 27 #[.val (.ref ao), .val (.ref ra), .val (.long (0 : Int64)), .second, .val (.long (0 : Int64)), .second, .val (.int (0 : Int32)), .unset, .unset] [(.int (0 : Int32))])) _
    refine XS.aloadN P5.here hx rfl (hb hby dci4_27) rfl rfl ?_
    show Steps p.tables e below (T5.setTop (mkF m 28 #[.val (.ref ao), .val (.ref ra), .val (.long (0 : Int64)), .second, .val (.long (0 : Int64)), .second, .val (.int (0 : Int32)), .unset, .unset] [(.ref ra), (.int (0 : Int32))])) _
    refine own_alen C P5 Y6_ra dci4_28 ?_
    show Steps p.tables e below (T5.setTop (mkF m 29 #[.val (.ref ao), .val (.ref ra), .val (.long (0 : Int64)), .second, .val (.long (0 : Int64)), .second, .val (.int (0 : Int32)), .unset, .unset] [(.int (4 : Int32)), (.int (0 : Int32))])) _
    exact kQ
  show OwnDone p e below _ (T5.setTop (mkF m 29 #[.val (.ref ao), .val (.ref ra), .val (.long (0 : Int64)), .second, .val (.long (0 : Int64)), .second, .val (.int (0 : Int32)), .unset, .unset] [(.int (4 : Int32)), (.int (0 : Int32))]))
  refine OwnDone.go (A := (T5.setTop (mkF m 32 #[.val (.ref ao), .val (.ref ra), .val (.long (0 : Int64)), .second, .val (.long (0 : Int64)), .second, .val (.int (0 : Int32)), .unset, .unset] []))) (fun tQ kQ => XS.icmpNo P5.here hx rfl (hb hby dci4_29) rfl (XT.ii_ge_f (by decide)) kQ) ?_
  show OwnDone p e below _ (T5.setTop (mkF m 32 #[.val (.ref ao), .val (.ref ra), .val (.long (0 : Int64)), .second, .val (.long (0 : Int64)), .second, .val (.int (0 : Int32)), .unset, .unset] []))
  refine OwnDone.go (A := (T5.setTop (mkF m 39 #[.val (.ref ao), .val (.ref ra), .val (.long (0 : Int64)), .second, .val (.long (0 : Int64)), .second, .val (.int (0 : Int32)), .unset, .unset] [(.int (128 : Int32)), (.int x0)]))) (fun tQ kQ => ?_) ?_
  · refine XS.aloadN P5.here hx rfl (hb hby dci4_32) rfl rfl ?_
    show Steps p.tables e below (T5.setTop (mkF m 33 #[.val (.ref ao), .val (.ref ra), .val (.long (0 : Int64)), .second, .val (.long (0 : Int64)), .second, .val (.int (0 : Int32)), .unset, .unset] [(.ref ra)])) _
    refine XS.iload P5.here hx rfl (hb hby dci4_33) rfl ?_
    show Steps p.tables e below (T5.setTop (mkF m 35 #[.val (.ref ao), .val (.ref ra), .val (.long (0 : Int64)), .second, .val (.long (0 : Int64)), .second, .val (.int (0 : Int32)), .unset, .unset] [(.int (0 : Int32)), (.ref ra)])) _
    refine own_iaload C P5 Y6_ra (by decide) rfl dci4_35 ?_
    show Steps p.tables e below (T5.setTop (mkF m 36 #[.val (.ref ao), .val (.ref ra), .val (.long (0 : Int64)), .second, .val (.long (0 : Int64)), .second, .val (.int (0 : Int32)), .unset, .unset] [(.int x0)])) _
    refine XS.sipush P5.here hx rfl (hb hby dci4_36) ?_
    show Steps p.tables e below (T5.setTop (mkF m 39 #[.val (.ref ao), .val (.ref ra), .val (.long (0 : Int64)), .second, .val (.long (0 : Int64)), .second, .val (.int (0 : Int32)), .unset, .unset] [(.int (128 : Int32)), (.int x0)])) _
    exact kQ
  show OwnDone p e below _ (T5.setTop (mkF m 39 #[.val (.ref ao), .val (.ref ra), .val (.long (0 : Int64)), .second, .val (.long (0 : Int64)), .second, .val (.int (0 : Int32)), .unset, .unset] [(.int (128 : Int32)), (.int x0)]))
  by_cases hc39 : x0 < (128 : Int32)
  · refine OwnDone.go (A := (T5.setTop (mkF m 42 #[.val (.ref ao), .val (.ref ra), .val (.long (0 : Int64)), .second, .val (.long (0 : Int64)), .second, .val (.int (0 : Int32)), .unset, .unset] []))) (fun tQ kQ => XS.icmpNo P5.here hx rfl (hb hby dci4_39) rfl (XT.ii_ge_f hc39) kQ) ?_
    show OwnDone p e below _ (T5.setTop (mkF m 42 #[.val (.ref ao), .val (.ref ra), .val (.long (0 : Int64)), .second, .val (.long (0 : Int64)), .second, .val (.int (0 : Int32)), .unset, .unset] []))
    refine OwnDone.go (A := (T5.setTop (mkF m 50 #[.val (.ref ao), .val (.ref ra), .val (.long (0 : Int64)), .second, .val (.long (0 : Int64)), .second, .val (.int (0 : Int32)), .unset, .unset] [(.int (127 : Int32)), (.int x1)]))) (fun tQ kQ => ?_) ?_
    · refine XS.aloadN P5.here hx rfl (hb hby dci4_42) rfl rfl ?_
      show Steps p.tables e below (T5.setTop (mkF m 43 #[.val (.ref ao), .val (.ref ra), .val (.long (0 : Int64)), .second, .val (.long (0 : Int64)), .second, .val (.int (0 : Int32)), .unset, .unset] [(.ref ra)])) _
      refine XS.iload P5.here hx rfl (hb hby dci4_43) rfl ?_
      show Steps p.tables e below (T5.setTop (mkF m 45 #[.val (.ref ao), .val (.ref ra), .val (.long (0 : Int64)), .second, .val (.long (0 : Int64)), .second, .val (.int (0 : Int32)), .unset, .unset] [(.int (0 : Int32)), (.ref ra)])) _
      refine XS.iconst P5.here hx rfl (hb hby dci4_45) ?_
      show Steps p.tables e below (T5.setTop (mkF m 46 #[.val (.ref ao), .val (.ref ra), .val (.long (0 : Int64)), .second, .val (.long (0 : Int64)), .second, .val (.int (0 : Int32)), .unset, .unset] [(.int (1 : Int32)), (.int (0 : Int32)), (.ref ra)])) _
      refine XS.iadd P5.here hx rfl (hb hby dci4_46) rfl ?_
      show Steps p.tables e below (T5.setTop (mkF m 47 #[.val (.ref ao), .val (.ref ra), .val (.long (0 : Int64)), .second, .val (.long (0 : Int64)), .second, .val (.int (0 : Int32)), .unset, .unset] [(.int (1 : Int32)), (.ref ra)])) _
      refine own_iaload C P5 Y6_ra (by decide) rfl dci4_47 ?_
      show Steps p.tables e below (T5.setTop (mkF m 48 #[.val (.ref ao), .val (.ref ra), .val (.long (0 : Int64)), .second, .val (.long (0 : Int64)), .second, .val (.int (0 : Int32)), .unset, .unset] [(.int x1)])) _
      refine XS.bipush P5.here hx rfl (hb hby dci4_48) ?_
      show Steps p.tables e below (T5.setTop (mkF m 50 #[.val (.ref ao), .val (.ref ra), .val (.long (0 : Int64)), .second, .val (.long (0 : Int64)), .second, .val (.int (0 : Int32)), .unset, .unset] [(.int (127 : Int32)), (.int x1)])) _
      exact kQ
    show OwnDone p e below _ (T5.setTop (mkF m 50 #[.val (.ref ao), .val (.ref ra), .val (.long (0 : Int64)), .second, .val (.long (0 : Int64)), .second, .val (.int (0 : Int32)), .unset, .unset] [(.int (127 : Int32)), (.int x1)]))
    refine own_callS (y := (⟨"java/lang/Math", "min", "(II)I"⟩ : MethodName)) C P5 (hw _ (List.mem_of_getElem? (i := 174) rfl)) (hw _ (List.mem_of_getElem? (i := 7) rfl)) (hw _ (List.mem_of_getElem? (i := 8) rfl)) (hw _ (List.mem_of_getElem? (i := 9) rfl)) (by decide) (rmmin l Z a0 hw x1 (127 : Int32) h5 P5.old) (as := [(.int x1), (.int (127 : Int32))]) (rest := []) pd_10 rfl rfl (wd := 0) rfl rfl dci4_50 all0 (by decide) (by decide) (by decide) (by decide) (fun T7 h7 v7 P7 K7 hQ7 => ?_)
    obtain ⟨r7, rfl, mn7, rfl⟩ := hQ7
    show OwnDone p e below _ (T7.setTop (mkF m 53 #[.val (.ref ao), .val (.ref ra), .val (.long (0 : Int64)), .second, .val (.long (0 : Int64)), .second, .val (.int (0 : Int32)), .unset, .unset] [(.int r7)]))
    refine OwnDone.go (A := (T7.setTop (mkF m 61 #[.val (.ref ao), .val (.ref ra), .val (.long (0 : Int64)), .second, .val (.long (0 : Int64)), .second, .val (.int (0 : Int32)), .val (.int r7), .val (.int x0)] []))) (fun tQ kQ => ?_) ?_
    · refine XS.istore P7.here hx rfl (hb hby dci4_53) rfl (l' := #[.val (.ref ao), .val (.ref ra), .val (.long (0 : Int64)), .second, .val (.long (0 : Int64)), .second, .val (.int (0 : Int32)), .val (.int r7), .unset]) rfl ?_
      show Steps p.tables e below (T7.setTop (mkF m 55 #[.val (.ref ao), .val (.ref ra), .val (.long (0 : Int64)), .second, .val (.long (0 : Int64)), .second, .val (.int (0 : Int32)), .val (.int r7), .unset] [])) _
      refine XS.aloadN P7.here hx rfl (hb hby dci4_55) rfl rfl ?_
      show Steps p.tables e below (T7.setTop (mkF m 56 #[.val (.ref ao), .val (.ref ra), .val (.long (0 : Int64)), .second, .val (.long (0 : Int64)), .second, .val (.int (0 : Int32)), .val (.int r7), .unset] [(.ref ra)])) _
      refine XS.iload P7.here hx rfl (hb hby dci4_56) rfl ?_
      show Steps p.tables e below (T7.setTop (mkF m 58 #[.val (.ref ao), .val (.ref ra), .val (.long (0 : Int64)), .second, .val (.long (0 : Int64)), .second, .val (.int (0 : Int32)), .val (.int r7), .unset] [(.int (0 : Int32)), (.ref ra)])) _
      refine own_iaload C P7 Y6_ra (by decide) rfl dci4_58 ?_
      show Steps p.tables e below (T7.setTop (mkF m 59 #[.val (.ref ao), .val (.ref ra), .val (.long (0 : Int64)), .second, .val (.long (0 : Int64)), .second, .val (.int (0 : Int32)), .val (.int r7), .unset] [(.int x0)])) _
      refine XS.istore P7.here hx rfl (hb hby dci4_59) rfl (l' := #[.val (.ref ao), .val (.ref ra), .val (.long (0 : Int64)), .second, .val (.long (0 : Int64)), .second, .val (.int (0 : Int32)), .val (.int r7), .val (.int x0)]) rfl ?_
      show Steps p.tables e below (T7.setTop (mkF m 61 #[.val (.ref ao), .val (.ref ra), .val (.long (0 : Int64)), .second, .val (.long (0 : Int64)), .second, .val (.int (0 : Int32)), .val (.int r7), .val (.int x0)] [])) _
      exact kQ
    show OwnDone p e below _ (T7.setTop (mkF m 61 #[.val (.ref ao), .val (.ref ra), .val (.long (0 : Int64)), .second, .val (.long (0 : Int64)), .second, .val (.int (0 : Int32)), .val (.int r7), .val (.int x0)] []))
    refine cilLoop C P7 (own_e127 mn7) (fun lo8 hi8 cc8 => ?_) 4294967296 _ _ _ (own_mea mn7)
    show OwnDone p e below _ (T7.setTop (mkF m 103 #[.val (.ref ao), .val (.ref ra), .val (.long lo8), .second, .val (.long hi8), .second, .val (.int (0 : Int32)), .val (.int r7), .val (.int cc8)] []))
    refine OwnDone.go (A := (T7.setTop (mkF m 29 #[.val (.ref ao), .val (.ref ra), .val (.long lo8), .second, .val (.long hi8), .second, .val (.int (2 : Int32)), .val (.int r7), .val (.int cc8)] [(.int (4 : Int32)), (.int (2 : Int32))]))) (fun tQ kQ => ?_) ?_
    · refine XS.iinc P7.here hx rfl (hb hby dci4_103) rfl (l' := #[.val (.ref ao), .val (.ref ra), .val (.long lo8), .second, .val (.long hi8), .second, .val (.int (2 : Int32)), .val (.int r7), .val (.int cc8)]) rfl ?_
      show Steps p.tables e below (T7.setTop (mkF m 106 #[.val (.ref ao), .val (.ref ra), .val (.long lo8), .second, .val (.long hi8), .second, .val (.int (2 : Int32)), .val (.int r7), .val (.int cc8)] [])) _
      refine XS.goto P7.here hx rfl (pc0 := 106) (pc' := 25) rfl (hb hby dci4_106) (by decide) (by decide) ?_
      show Steps p.tables e below (T7.setTop (mkF m 25 #[.val (.ref ao), .val (.ref ra), .val (.long lo8), .second, .val (.long hi8), .second, .val (.int (2 : Int32)), .val (.int r7), .val (.int cc8)] [])) _
      refine XS.iload P7.here hx rfl (hb hby dci4_25) rfl ?_
      show Steps p.tables e below (T7.setTop (mkF m 27 #[.val (.ref ao), .val (.ref ra), .val (.long lo8), .second, .val (.long hi8), .second, .val (.int (2 : Int32)), .val (.int r7), .val (.int cc8)] [(.int (2 : Int32))])) _
      refine XS.aloadN P7.here hx rfl (hb hby dci4_27) rfl rfl ?_
      show Steps p.tables e below (T7.setTop (mkF m 28 #[.val (.ref ao), .val (.ref ra), .val (.long lo8), .second, .val (.long hi8), .second, .val (.int (2 : Int32)), .val (.int r7), .val (.int cc8)] [(.ref ra), (.int (2 : Int32))])) _
      refine own_alen C P7 Y6_ra dci4_28 ?_
      show Steps p.tables e below (T7.setTop (mkF m 29 #[.val (.ref ao), .val (.ref ra), .val (.long lo8), .second, .val (.long hi8), .second, .val (.int (2 : Int32)), .val (.int r7), .val (.int cc8)] [(.int (4 : Int32)), (.int (2 : Int32))])) _
      exact kQ
    show OwnDone p e below _ (T7.setTop (mkF m 29 #[.val (.ref ao), .val (.ref ra), .val (.long lo8), .second, .val (.long hi8), .second, .val (.int (2 : Int32)), .val (.int r7), .val (.int cc8)] [(.int (4 : Int32)), (.int (2 : Int32))]))
    refine OwnDone.go (A := (T7.setTop (mkF m 32 #[.val (.ref ao), .val (.ref ra), .val (.long lo8), .second, .val (.long hi8), .second, .val (.int (2 : Int32)), .val (.int r7), .val (.int cc8)] []))) (fun tQ kQ => XS.icmpNo P7.here hx rfl (hb hby dci4_29) rfl (XT.ii_ge_f (by decide)) kQ) ?_
    show OwnDone p e below _ (T7.setTop (mkF m 32 #[.val (.ref ao), .val (.ref ra), .val (.long lo8), .second, .val (.long hi8), .second, .val (.int (2 : Int32)), .val (.int r7), .val (.int cc8)] []))
    refine OwnDone.go (A := (T7.setTop (mkF m 39 #[.val (.ref ao), .val (.ref ra), .val (.long lo8), .second, .val (.long hi8), .second, .val (.int (2 : Int32)), .val (.int r7), .val (.int cc8)] [(.int (128 : Int32)), (.int x2)]))) (fun tQ kQ => ?_) ?_
    · refine XS.aloadN P7.here hx rfl (hb hby dci4_32) rfl rfl ?_
      show Steps p.tables e below (T7.setTop (mkF m 33 #[.val (.ref ao), .val (.ref ra), .val (.long lo8), .second, .val (.long hi8), .second, .val (.int (2 : Int32)), .val (.int r7), .val (.int cc8)] [(.ref ra)])) _
      refine XS.iload P7.here hx rfl (hb hby dci4_33) rfl ?_
      show Steps p.tables e below (T7.setTop (mkF m 35 #[.val (.ref ao), .val (.ref ra), .val (.long lo8), .second, .val (.long hi8), .second, .val (.int (2 : Int32)), .val (.int r7), .val (.int cc8)] [(.int (2 : Int32)), (.ref ra)])) _
      refine own_iaload C P7 Y6_ra (by decide) rfl dci4_35 ?_
      show Steps p.tables e below (T7.setTop (mkF m 36 #[.val (.ref ao), .val (.ref ra), .val (.long lo8), .second, .val (.long hi8), .second, .val (.int (2 : Int32)), .val (.int r7), .val (.int cc8)] [(.int x2)])) _
      refine XS.sipush P7.here hx rfl (hb hby dci4_36) ?_
      show Steps p.tables e below (T7.setTop (mkF m 39 #[.val (.ref ao), .val (.ref ra), .val (.long lo8), .second, .val (.long hi8), .second, .val (.int (2 : Int32)), .val (.int r7), .val (.int cc8)] [(.int (128 : Int32)), (.int x2)])) _
      exact kQ
    show OwnDone p e below _ (T7.setTop (mkF m 39 #[.val (.ref ao), .val (.ref ra), .val (.long lo8), .second, .val (.long hi8), .second, .val (.int (2 : Int32)), .val (.int r7), .val (.int cc8)] [(.int (128 : Int32)), (.int x2)]))
    by_cases hc39 : x2 < (128 : Int32)
    · refine OwnDone.go (A := (T7.setTop (mkF m 42 #[.val (.ref ao), .val (.ref ra), .val (.long lo8), .second, .val (.long hi8), .second, .val (.int (2 : Int32)), .val (.int r7), .val (.int cc8)] []))) (fun tQ kQ => XS.icmpNo P7.here hx rfl (hb hby dci4_39) rfl (XT.ii_ge_f hc39) kQ) ?_
      show OwnDone p e below _ (T7.setTop (mkF m 42 #[.val (.ref ao), .val (.ref ra), .val (.long lo8), .second, .val (.long hi8), .second, .val (.int (2 : Int32)), .val (.int r7), .val (.int cc8)] []))
      refine OwnDone.go (A := (T7.setTop (mkF m 50 #[.val (.ref ao), .val (.ref ra), .val (.long lo8), .second, .val (.long hi8), .second, .val (.int (2 : Int32)), .val (.int r7), .val (.int cc8)] [(.int (127 : Int32)), (.int x3)]))) (fun tQ kQ => ?_) ?_
      · refine XS.aloadN P7.here hx rfl (hb hby dci4_42) rfl rfl ?_
        show Steps p.tables e below (T7.setTop (mkF m 43 #[.val (.ref ao), .val (.ref ra), .val (.long lo8), .second, .val (.long hi8), .second, .val (.int (2 : Int32)), .val (.int r7), .val (.int cc8)] [(.ref ra)])) _
        refine XS.iload P7.here hx rfl (hb hby dci4_43) rfl ?_
        show Steps p.tables e below (T7.setTop (mkF m 45 #[.val (.ref ao), .val (.ref ra), .val (.long lo8), .second, .val (.long hi8), .second, .val (.int (2 : Int32)), .val (.int r7), .val (.int cc8)] [(.int (2 : Int32)), (.ref ra)])) _
        refine XS.iconst P7.here hx rfl (hb hby dci4_45) ?_
        show Steps p.tables e below (T7.setTop (mkF m 46 #[.val (.ref ao), .val (.ref ra), .val (.long lo8), .second, .val (.long hi8), .second, .val (.int (2 : Int32)), .val (.int r7), .val (.int cc8)] [(.int (1 : Int32)), (.int (2 : Int32)), (.ref ra)])) _
        refine XS.iadd P7.here hx rfl (hb hby dci4_46) rfl ?_
        show Steps p.tables e below (T7.setTop (mkF m 47 #[.val (.ref ao), .val (.ref ra), .val (.long lo8), .second, .val (.long hi8), .second, .val (.int (2 : Int32)), .val (.int r7), .val (.int cc8)] [(.int (3 : Int32)), (.ref ra)])) _
        refine own_iaload C P7 Y6_ra (by decide) rfl dci4_47 ?_
        show Steps p.tables e below (T7.setTop (mkF m 48 #[.val (.ref ao), .val (.ref ra), .val (.long lo8), .second, .val (.long hi8), .second, .val (.int (2 : Int32)), .val (.int r7), .val (.int cc8)] [(.int x3)])) _
        refine XS.bipush P7.here hx rfl (hb hby dci4_48) ?_
        show Steps p.tables e below (T7.setTop (mkF m 50 #[.val (.ref ao), .val (.ref ra), .val (.long lo8), .second, .val (.long hi8), .second, .val (.int (2 : Int32)), .val (.int r7), .val (.int cc8)] [(.int (127 : Int32)), (.int x3)])) _
        exact kQ
      show OwnDone p e below _ (T7.setTop (mkF m 50 #[.val (.ref ao), .val (.ref ra), .val (.long lo8), .second, .val (.long hi8), .second, .val (.int (2 : Int32)), .val (.int r7), .val (.int cc8)] [(.int (127 : Int32)), (.int x3)]))
      refine own_callS (y := (⟨"java/lang/Math", "min", "(II)I"⟩ : MethodName)) C P7 (hw _ (List.mem_of_getElem? (i := 174) rfl)) (hw _ (List.mem_of_getElem? (i := 7) rfl)) (hw _ (List.mem_of_getElem? (i := 8) rfl)) (hw _ (List.mem_of_getElem? (i := 9) rfl)) (by decide) (rmmin l Z a0 hw x3 (127 : Int32) h5 P7.old) (as := [(.int x3), (.int (127 : Int32))]) (rest := []) pd_10 rfl rfl (wd := 0) rfl rfl dci4_50 all0 (by decide) (by decide) (by decide) (by decide) (fun T9 h9 v9 P9 K9 hQ9 => ?_)
      obtain ⟨r9, rfl, mn9, rfl⟩ := hQ9
      show OwnDone p e below _ (T9.setTop (mkF m 53 #[.val (.ref ao), .val (.ref ra), .val (.long lo8), .second, .val (.long hi8), .second, .val (.int (2 : Int32)), .val (.int r7), .val (.int cc8)] [(.int r9)]))
      refine OwnDone.go (A := (T9.setTop (mkF m 61 #[.val (.ref ao), .val (.ref ra), .val (.long lo8), .second, .val (.long hi8), .second, .val (.int (2 : Int32)), .val (.int r9), .val (.int x2)] []))) (fun tQ kQ => ?_) ?_
      · refine XS.istore P9.here hx rfl (hb hby dci4_53) rfl (l' := #[.val (.ref ao), .val (.ref ra), .val (.long lo8), .second, .val (.long hi8), .second, .val (.int (2 : Int32)), .val (.int r9), .val (.int cc8)]) rfl ?_
        show Steps p.tables e below (T9.setTop (mkF m 55 #[.val (.ref ao), .val (.ref ra), .val (.long lo8), .second, .val (.long hi8), .second, .val (.int (2 : Int32)), .val (.int r9), .val (.int cc8)] [])) _
        refine XS.aloadN P9.here hx rfl (hb hby dci4_55) rfl rfl ?_
        show Steps p.tables e below (T9.setTop (mkF m 56 #[.val (.ref ao), .val (.ref ra), .val (.long lo8), .second, .val (.long hi8), .second, .val (.int (2 : Int32)), .val (.int r9), .val (.int cc8)] [(.ref ra)])) _
        refine XS.iload P9.here hx rfl (hb hby dci4_56) rfl ?_
        show Steps p.tables e below (T9.setTop (mkF m 58 #[.val (.ref ao), .val (.ref ra), .val (.long lo8), .second, .val (.long hi8), .second, .val (.int (2 : Int32)), .val (.int r9), .val (.int cc8)] [(.int (2 : Int32)), (.ref ra)])) _
        refine own_iaload C P9 Y6_ra (by decide) rfl dci4_58 ?_
        show Steps p.tables e below (T9.setTop (mkF m 59 #[.val (.ref ao), .val (.ref ra), .val (.long lo8), .second, .val (.long hi8), .second, .val (.int (2 : Int32)), .val (.int r9), .val (.int cc8)] [(.int x2)])) _
        refine XS.istore P9.here hx rfl (hb hby dci4_59) rfl (l' := #[.val (.ref ao), .val (.ref ra), .val (.long lo8), .second, .val (.long hi8), .second, .val (.int (2 : Int32)), .val (.int r9), .val (.int x2)]) rfl ?_
        show Steps p.tables e below (T9.setTop (mkF m 61 #[.val (.ref ao), .val (.ref ra), .val (.long lo8), .second, .val (.long hi8), .second, .val (.int (2 : Int32)), .val (.int r9), .val (.int x2)] [])) _
        exact kQ
      show OwnDone p e below _ (T9.setTop (mkF m 61 #[.val (.ref ao), .val (.ref ra), .val (.long lo8), .second, .val (.long hi8), .second, .val (.int (2 : Int32)), .val (.int r9), .val (.int x2)] []))
      refine cilLoop C P9 (own_e127 mn9) (fun lo10 hi10 cc10 => ?_) 4294967296 _ _ _ (own_mea mn9)
      show OwnDone p e below _ (T9.setTop (mkF m 103 #[.val (.ref ao), .val (.ref ra), .val (.long lo10), .second, .val (.long hi10), .second, .val (.int (2 : Int32)), .val (.int r9), .val (.int cc10)] []))
      refine OwnDone.go (A := (T9.setTop (mkF m 29 #[.val (.ref ao), .val (.ref ra), .val (.long lo10), .second, .val (.long hi10), .second, .val (.int (4 : Int32)), .val (.int r9), .val (.int cc10)] [(.int (4 : Int32)), (.int (4 : Int32))]))) (fun tQ kQ => ?_) ?_
      · refine XS.iinc P9.here hx rfl (hb hby dci4_103) rfl (l' := #[.val (.ref ao), .val (.ref ra), .val (.long lo10), .second, .val (.long hi10), .second, .val (.int (4 : Int32)), .val (.int r9), .val (.int cc10)]) rfl ?_
        show Steps p.tables e below (T9.setTop (mkF m 106 #[.val (.ref ao), .val (.ref ra), .val (.long lo10), .second, .val (.long hi10), .second, .val (.int (4 : Int32)), .val (.int r9), .val (.int cc10)] [])) _
        refine XS.goto P9.here hx rfl (pc0 := 106) (pc' := 25) rfl (hb hby dci4_106) (by decide) (by decide) ?_
        show Steps p.tables e below (T9.setTop (mkF m 25 #[.val (.ref ao), .val (.ref ra), .val (.long lo10), .second, .val (.long hi10), .second, .val (.int (4 : Int32)), .val (.int r9), .val (.int cc10)] [])) _
        refine XS.iload P9.here hx rfl (hb hby dci4_25) rfl ?_
        show Steps p.tables e below (T9.setTop (mkF m 27 #[.val (.ref ao), .val (.ref ra), .val (.long lo10), .second, .val (.long hi10), .second, .val (.int (4 : Int32)), .val (.int r9), .val (.int cc10)] [(.int (4 : Int32))])) _
        refine XS.aloadN P9.here hx rfl (hb hby dci4_27) rfl rfl ?_
        show Steps p.tables e below (T9.setTop (mkF m 28 #[.val (.ref ao), .val (.ref ra), .val (.long lo10), .second, .val (.long hi10), .second, .val (.int (4 : Int32)), .val (.int r9), .val (.int cc10)] [(.ref ra), (.int (4 : Int32))])) _
        refine own_alen C P9 Y6_ra dci4_28 ?_
        show Steps p.tables e below (T9.setTop (mkF m 29 #[.val (.ref ao), .val (.ref ra), .val (.long lo10), .second, .val (.long hi10), .second, .val (.int (4 : Int32)), .val (.int r9), .val (.int cc10)] [(.int (4 : Int32)), (.int (4 : Int32))])) _
        exact kQ
      show OwnDone p e below _ (T9.setTop (mkF m 29 #[.val (.ref ao), .val (.ref ra), .val (.long lo10), .second, .val (.long hi10), .second, .val (.int (4 : Int32)), .val (.int r9), .val (.int cc10)] [(.int (4 : Int32)), (.int (4 : Int32))]))
      refine OwnDone.go (A := (T9.setTop (mkF m 109 #[.val (.ref ao), .val (.ref ra), .val (.long lo10), .second, .val (.long hi10), .second, .val (.int (4 : Int32)), .val (.int r9), .val (.int cc10)] []))) (fun tQ kQ => XS.icmpYes P9.here hx rfl (pc0 := 29) (pc' := 109) rfl (hb hby dci4_29) rfl (XT.ii_ge_t (by decide)) (by decide) (by decide) kQ) ?_
      show OwnDone p e below _ (T9.setTop (mkF m 109 #[.val (.ref ao), .val (.ref ra), .val (.long lo10), .second, .val (.long hi10), .second, .val (.int (4 : Int32)), .val (.int r9), .val (.int cc10)] []))
      refine OwnDone.go (A := (T9.setTop (mkF m 111 #[.val (.ref ao), .val (.ref ra), .val (.long lo10), .second, .val (.long hi10), .second, .val (.int (4 : Int32)), .val (.int r9), .val (.int cc10)] [(.long lo10), (.ref ao)]))) (fun tQ kQ => ?_) ?_
      · refine XS.aloadN P9.here hx rfl (hb hby dci4_109) rfl rfl ?_
        show Steps p.tables e below (T9.setTop (mkF m 110 #[.val (.ref ao), .val (.ref ra), .val (.long lo10), .second, .val (.long hi10), .second, .val (.int (4 : Int32)), .val (.int r9), .val (.int cc10)] [(.ref ao)])) _
        refine XT.lloadN P9.here hx rfl (hb hby dci4_110) rfl ?_
        show Steps p.tables e below (T9.setTop (mkF m 111 #[.val (.ref ao), .val (.ref ra), .val (.long lo10), .second, .val (.long hi10), .second, .val (.int (4 : Int32)), .val (.int r9), .val (.int cc10)] [(.long lo10), (.ref ao)])) _
        exact kQ
      show OwnDone p e below _ (T9.setTop (mkF m 111 #[.val (.ref ao), .val (.ref ra), .val (.long lo10), .second, .val (.long hi10), .second, .val (.int (4 : Int32)), .val (.int r9), .val (.int cc10)] [(.long lo10), (.ref ao)]))
      refine own_putO (ty := .long) C P9 (hw _ (List.mem_of_getElem? (i := 175) rfl)) Via.refl O5 (own_laid4 hw) 2 rfl rfl (Or.inr ⟨(hw _ (List.mem_of_getElem? (i := 176) rfl)), rfl, rfl⟩) (hw _ (List.mem_of_getElem? (i := 144) rfl)) (by decide) rfl rfl (Or.inl (List.mem_of_getElem? (i := 0) rfl)) dci4_111 (vs' := [(.ref ra), (.int r4), (.long lo10), (.long (0 : Int64))]) rfl (fun T11 h11 P11 K11 O11 => ?_)
      have Y12_ra := Y6_ra.keep K11 (ninS (Ne.symm nar) nin0)
      show OwnDone p e below _ (T11.setTop (mkF m 114 #[.val (.ref ao), .val (.ref ra), .val (.long lo10), .second, .val (.long hi10), .second, .val (.int (4 : Int32)), .val (.int r9), .val (.int cc10)] []))
      refine OwnDone.go (A := (T11.setTop (mkF m 117 #[.val (.ref ao), .val (.ref ra), .val (.long lo10), .second, .val (.long hi10), .second, .val (.int (4 : Int32)), .val (.int r9), .val (.int cc10)] [(.long hi10), (.ref ao)]))) (fun tQ kQ => ?_) ?_
      · refine XS.aloadN P11.here hx rfl (hb hby dci4_114) rfl rfl ?_
        show Steps p.tables e below (T11.setTop (mkF m 115 #[.val (.ref ao), .val (.ref ra), .val (.long lo10), .second, .val (.long hi10), .second, .val (.int (4 : Int32)), .val (.int r9), .val (.int cc10)] [(.ref ao)])) _
        refine XT.lload P11.here hx rfl (hb hby dci4_115) rfl ?_
        show Steps p.tables e below (T11.setTop (mkF m 117 #[.val (.ref ao), .val (.ref ra), .val (.long lo10), .second, .val (.long hi10), .second, .val (.int (4 : Int32)), .val (.int r9), .val (.int cc10)] [(.long hi10), (.ref ao)])) _
        exact kQ
      show OwnDone p e below _ (T11.setTop (mkF m 117 #[.val (.ref ao), .val (.ref ra), .val (.long lo10), .second, .val (.long hi10), .second, .val (.int (4 : Int32)), .val (.int r9), .val (.int cc10)] [(.long hi10), (.ref ao)]))
      refine own_putO (ty := .long) C P11 (hw _ (List.mem_of_getElem? (i := 177) rfl)) Via.refl O11 (own_laid4 hw) 3 rfl rfl (Or.inr ⟨(hw _ (List.mem_of_getElem? (i := 178) rfl)), rfl, rfl⟩) (hw _ (List.mem_of_getElem? (i := 144) rfl)) (by decide) rfl rfl (Or.inl (List.mem_of_getElem? (i := 0) rfl)) dci4_117 (vs' := [(.ref ra), (.int r4), (.long lo10), (.long hi10)]) rfl (fun T13 h13 P13 K13 O13 => ?_)
      have Y14_ra := Y12_ra.keep K13 (ninS (Ne.symm nar) nin0)
      show OwnDone p e below _ (T13.setTop (mkF m 120 #[.val (.ref ao), .val (.ref ra), .val (.long lo10), .second, .val (.long hi10), .second, .val (.int (4 : Int32)), .val (.int r9), .val (.int cc10)] []))
      refine own_retV C P13 dci4_120 (by decide) (by decide) ⟨rfl, _, _, _, O13⟩
    · refine OwnDone.go (A := (T7.setTop (mkF m 109 #[.val (.ref ao), .val (.ref ra), .val (.long lo8), .second, .val (.long hi8), .second, .val (.int (2 : Int32)), .val (.int r7), .val (.int cc8)] []))) (fun tQ kQ => XS.icmpYes P7.here hx rfl (pc0 := 39) (pc' := 109) rfl (hb hby dci4_39) rfl (XT.ii_ge_t hc39) (by decide) (by decide) kQ) ?_
      show OwnDone p e below _ (T7.setTop (mkF m 109 #[.val (.ref ao), .val (.ref ra), .val (.long lo8), .second, .val (.long hi8), .second, .val (.int (2 : Int32)), .val (.int r7), .val (.int cc8)] []))
      refine OwnDone.go (A := (T7.setTop (mkF m 111 #[.val (.ref ao), .val (.ref ra), .val (.long lo8), .second, .val (.long hi8), .second, .val (.int (2 : Int32)), .val (.int r7), .val (.int cc8)] [(.long lo8), (.ref ao)]))) (fun tQ kQ => ?_) ?_
      · refine XS.aloadN P7.here hx rfl (hb hby dci4_109) rfl rfl ?_
        show Steps p.tables e below (T7.setTop (mkF m 110 #[.val (.ref ao), .val (.ref ra), .val (.long lo8), .second, .val (.long hi8), .second, .val (.int (2 : Int32)), .val (.int r7), .val (.int cc8)] [(.ref ao)])) _
        refine XT.lloadN P7.here hx rfl (hb hby dci4_110) rfl ?_
        show Steps p.tables e below (T7.setTop (mkF m 111 #[.val (.ref ao), .val (.ref ra), .val (.long lo8), .second, .val (.long hi8), .second, .val (.int (2 : Int32)), .val (.int r7), .val (.int cc8)] [(.long lo8), (.ref ao)])) _
        exact kQ
      show OwnDone p e below _ (T7.setTop (mkF m 111 #[.val (.ref ao), .val (.ref ra), .val (.long lo8), .second, .val (.long hi8), .second, .val (.int (2 : Int32)), .val (.int r7), .val (.int cc8)] [(.long lo8), (.ref ao)]))
      refine own_putO (ty := .long) C P7 (hw _ (List.mem_of_getElem? (i := 175) rfl)) Via.refl O5 (own_laid4 hw) 2 rfl rfl (Or.inr ⟨(hw _ (List.mem_of_getElem? (i := 176) rfl)), rfl, rfl⟩) (hw _ (List.mem_of_getElem? (i := 144) rfl)) (by decide) rfl rfl (Or.inl (List.mem_of_getElem? (i := 0) rfl)) dci4_111 (vs' := [(.ref ra), (.int r4), (.long lo8), (.long (0 : Int64))]) rfl (fun T15 h15 P15 K15 O15 => ?_)
      have Y16_ra := Y6_ra.keep K15 (ninS (Ne.symm nar) nin0)
      show OwnDone p e below _ (T15.setTop (mkF m 114 #[.val (.ref ao), .val (.ref ra), .val (.long lo8), .second, .val (.long hi8), .second, .val (.int (2 : Int32)), .val (.int r7), .val (.int cc8)] []))
      refine OwnDone.go (A := (T15.setTop (mkF m 117 #[.val (.ref ao), .val (.ref ra), .val (.long lo8), .second, .val (.long hi8), .second, .val (.int (2 : Int32)), .val (.int r7), .val (.int cc8)] [(.long hi8), (.ref ao)]))) (fun tQ kQ => ?_) ?_
      · refine XS.aloadN P15.here hx rfl (hb hby dci4_114) rfl rfl ?_
        show Steps p.tables e below (T15.setTop (mkF m 115 #[.val (.ref ao), .val (.ref ra), .val (.long lo8), .second, .val (.long hi8), .second, .val (.int (2 : Int32)), .val (.int r7), .val (.int cc8)] [(.ref ao)])) _
        refine XT.lload P15.here hx rfl (hb hby dci4_115) rfl ?_
        show Steps p.tables e below (T15.setTop (mkF m 117 #[.val (.ref ao), .val (.ref ra), .val (.long lo8), .second, .val (.long hi8), .second, .val (.int (2 : Int32)), .val (.int r7), .val (.int cc8)] [(.long hi8), (.ref ao)])) _
        exact kQ
      show OwnDone p e below _ (T15.setTop (mkF m 117 #[.val (.ref ao), .val (.ref ra), .val (.long lo8), .second, .val (.long hi8), .second, .val (.int (2 : Int32)), .val (.int r7), .val (.int cc8)] [(.long hi8), (.ref ao)]))
      refine own_putO (ty := .long) C P15 (hw _ (List.mem_of_getElem? (i := 177) rfl)) Via.refl O15 (own_laid4 hw) 3 rfl rfl (Or.inr ⟨(hw _ (List.mem_of_getElem? (i := 178) rfl)), rfl, rfl⟩) (hw _ (List.mem_of_getElem? (i := 144) rfl)) (by decide) rfl rfl (Or.inl (List.mem_of_getElem? (i := 0) rfl)) dci4_117 (vs' := [(.ref ra), (.int r4), (.long lo8), (.long hi8)]) rfl (fun T17 h17 P17 K17 O17 => ?_)
      have Y18_ra := Y16_ra.keep K17 (ninS (Ne.symm nar) nin0)
      show OwnDone p e below _ (T17.setTop (mkF m 120 #[.val (.ref ao), .val (.ref ra), .val (.long lo8), .second, .val (.long hi8), .second, .val (.int (2 : Int32)), .val (.int r7), .val (.int cc8)] []))
      refine own_retV C P17 dci4_120 (by decide) (by decide) ⟨rfl, _, _, _, O17⟩
  · refine OwnDone.go (A := (T5.setTop (mkF m 109 #[.val (.ref ao), .val (.ref ra), .val (.long (0 : Int64)), .second, .val (.long (0 : Int64)), .second, .val (.int (0 : Int32)), .unset, .unset] []))) (fun tQ kQ => XS.icmpYes P5.here hx rfl (pc0 := 39) (pc' := 109) rfl (hb hby dci4_39) rfl (XT.ii_ge_t hc39) (by decide) (by decide) kQ) ?_
    show OwnDone p e below _ (T5.setTop (mkF m 109 #[.val (.ref ao), .val (.ref ra), .val (.long (0 : Int64)), .second, .val (.long (0 : Int64)), .second, .val (.int (0 : Int32)), .unset, .unset] []))
    refine OwnDone.go (A := (T5.setTop (mkF m 111 #[.val (.ref ao), .val (.ref ra), .val (.long (0 : Int64)), .second, .val (.long (0 : Int64)), .second, .val (.int (0 : Int32)), .unset, .unset] [(.long (0 : Int64)), (.ref ao)]))) (fun tQ kQ => ?_) ?_
    · refine XS.aloadN P5.here hx rfl (hb hby dci4_109) rfl rfl ?_
      show Steps p.tables e below (T5.setTop (mkF m 110 #[.val (.ref ao), .val (.ref ra), .val (.long (0 : Int64)), .second, .val (.long (0 : Int64)), .second, .val (.int (0 : Int32)), .unset, .unset] [(.ref ao)])) _
      refine XT.lloadN P5.here hx rfl (hb hby dci4_110) rfl ?_
      show Steps p.tables e below (T5.setTop (mkF m 111 #[.val (.ref ao), .val (.ref ra), .val (.long (0 : Int64)), .second, .val (.long (0 : Int64)), .second, .val (.int (0 : Int32)), .unset, .unset] [(.long (0 : Int64)), (.ref ao)])) _
      exact kQ
    show OwnDone p e below _ (T5.setTop (mkF m 111 #[.val (.ref ao), .val (.ref ra), .val (.long (0 : Int64)), .second, .val (.long (0 : Int64)), .second, .val (.int (0 : Int32)), .unset, .unset] [(.long (0 : Int64)), (.ref ao)]))
    refine own_putO (ty := .long) C P5 (hw _ (List.mem_of_getElem? (i := 175) rfl)) Via.refl O5 (own_laid4 hw) 2 rfl rfl (Or.inr ⟨(hw _ (List.mem_of_getElem? (i := 176) rfl)), rfl, rfl⟩) (hw _ (List.mem_of_getElem? (i := 144) rfl)) (by decide) rfl rfl (Or.inl (List.mem_of_getElem? (i := 0) rfl)) dci4_111 (vs' := [(.ref ra), (.int r4), (.long (0 : Int64)), (.long (0 : Int64))]) rfl (fun T19 h19 P19 K19 O19 => ?_)
    have Y20_ra := Y6_ra.keep K19 (ninS (Ne.symm nar) nin0)
    show OwnDone p e below _ (T19.setTop (mkF m 114 #[.val (.ref ao), .val (.ref ra), .val (.long (0 : Int64)), .second, .val (.long (0 : Int64)), .second, .val (.int (0 : Int32)), .unset, .unset] []))
    refine OwnDone.go (A := (T19.setTop (mkF m 117 #[.val (.ref ao), .val (.ref ra), .val (.long (0 : Int64)), .second, .val (.long (0 : Int64)), .second, .val (.int (0 : Int32)), .unset, .unset] [(.long (0 : Int64)), (.ref ao)]))) (fun tQ kQ => ?_) ?_
    · refine XS.aloadN P19.here hx rfl (hb hby dci4_114) rfl rfl ?_
      show Steps p.tables e below (T19.setTop (mkF m 115 #[.val (.ref ao), .val (.ref ra), .val (.long (0 : Int64)), .second, .val (.long (0 : Int64)), .second, .val (.int (0 : Int32)), .unset, .unset] [(.ref ao)])) _
      refine XT.lload P19.here hx rfl (hb hby dci4_115) rfl ?_
      show Steps p.tables e below (T19.setTop (mkF m 117 #[.val (.ref ao), .val (.ref ra), .val (.long (0 : Int64)), .second, .val (.long (0 : Int64)), .second, .val (.int (0 : Int32)), .unset, .unset] [(.long (0 : Int64)), (.ref ao)])) _
      exact kQ
    show OwnDone p e below _ (T19.setTop (mkF m 117 #[.val (.ref ao), .val (.ref ra), .val (.long (0 : Int64)), .second, .val (.long (0 : Int64)), .second, .val (.int (0 : Int32)), .unset, .unset] [(.long (0 : Int64)), (.ref ao)]))
    refine own_putO (ty := .long) C P19 (hw _ (List.mem_of_getElem? (i := 177) rfl)) Via.refl O19 (own_laid4 hw) 3 rfl rfl (Or.inr ⟨(hw _ (List.mem_of_getElem? (i := 178) rfl)), rfl, rfl⟩) (hw _ (List.mem_of_getElem? (i := 144) rfl)) (by decide) rfl rfl (Or.inl (List.mem_of_getElem? (i := 0) rfl)) dci4_117 (vs' := [(.ref ra), (.int r4), (.long (0 : Int64)), (.long (0 : Int64))]) rfl (fun T21 h21 P21 K21 O21 => ?_)
    have Y22_ra := Y20_ra.keep K21 (ninS (Ne.symm nar) nin0)
    show OwnDone p e below _ (T21.setTop (mkF m 120 #[.val (.ref ao), .val (.ref ra), .val (.long (0 : Int64)), .second, .val (.long (0 : Int64)), .second, .val (.int (0 : Int32)), .unset, .unset] []))
    refine own_retV C P21 dci4_120 (by decide) (by decide) ⟨rfl, _, _, _, O21⟩
theorem drg2_0 : decode prog_12_method_6_code 0 = .ok (.aload_n 0, 1) := by decide +kernel
theorem drg2_1 : decode prog_12_method_6_code 1 = .ok (.getfield 7, 3) := by decide +kernel
theorem drg2_4 : decode prog_12_method_6_code 4 = .ok (.arraylength, 1) := by decide +kernel
theorem drg2_5 : decode prog_12_method_6_code 5 = .ok (.iconst 2, 1) := by decide +kernel
theorem drg2_6 : decode prog_12_method_6_code 6 = .ok (.idiv, 1) := by decide +kernel
theorem drg2_7 : decode prog_12_method_6_code 7 = .ok (.ireturn, 1) := by decide +kernel
theorem pnrg2 : plainName "com/example/bounded_array/boundedarray/regex/CodePointSet" = true := by first | (simp [plainName, overriddenIn]; done) | decide +kernel
theorem efrg2 (m : MethodId) (ao : Addr)  : entryFrame m #[(.ref ao)] 1 = mkF m 0 #[.val (.ref ao)] [] := by first | (simp [entryFrame, mkF, argsToLocals, Value.category]; done) | rfl
set_option maxRecDepth 65536 in
set_option maxHeartbeats 40000000 in
theorem rmrg2 (l : Launch) (Z : State) (a0 : Array Value) (hw : ∀ d ∈ tables_1, d.before a0 Z = true) (ao : Addr) (ra : Addr) (k : ClassId) (hs : Int32) (lo hi : Int64) (x0 x1 : Int32) (h0 : Heap) (hE : Ext Z.heap h0)  (Oa : OwnObj Z h0 ao "com/example/bounded_array/boundedarray/regex/CodePointSet" own_lay4 [(.ref ra), (.int hs), (.long lo), (.long hi)]) (Ya : OwnAry Z h0 ra k .int [(.int x0), (.int x1)]) :
    OwnMeets l (⟨"com/example/bounded_array/boundedarray/regex/CodePointSet", "ranges", "()I"⟩ : MethodName) prog_12_method_6_code 1 (some .int) ({ frames := 0, cells := 0, slots := 0, locals := 0 } : Room) Z [] #[(.ref ao)] h0 (fun v h => v = some (.int (1 : Int32)) ∧ h0 = h) := by
  refine OwnMeets.of (plainFor_of_name pnrg2) hE all0 ?_
  intro p e s m below meth c T C P
  have hx := C.1
  have hby := C.2.2.2.2.1
  rw [show entryFrame m #[(.ref ao)] 1 = _ from efrg2 m ao]
  show OwnDone p e below _ (T.setTop (mkF m 0 #[.val (.ref ao)] []))
  refine OwnDone.go (A := (T.setTop (mkF m 1 #[.val (.ref ao)] [(.ref ao)]))) (fun tQ kQ => ?_) ?_
  · refine XS.aloadN P.here hx rfl (hb hby drg2_0) rfl rfl ?_
    show Steps p.tables e below (T.setTop (mkF m 1 #[.val (.ref ao)] [(.ref ao)])) _
    exact kQ
  show OwnDone p e below _ (T.setTop (mkF m 1 #[.val (.ref ao)] [(.ref ao)]))
  refine own_getF C P (host := "") (Or.inl (hw _ (List.mem_of_getElem? (i := 158) rfl))) Via.refl (Oa.2 0 _ _ _ _ rfl rfl) drg2_1 (fun T1 P1 => ?_)
  show OwnDone p e below _ (T1.setTop (mkF m 4 #[.val (.ref ao)] [(.ref ra)]))
  refine OwnDone.go (A := (T1.setTop (mkF m 7 #[.val (.ref ao)] [(.int (1 : Int32))]))) (fun tQ kQ => ?_) ?_
  · refine own_alen C P1 Ya drg2_4 ?_
    show Steps p.tables e below (T1.setTop (mkF m 5 #[.val (.ref ao)] [(.int (2 : Int32))])) _
    refine XS.iconst P1.here hx rfl (hb hby drg2_5) ?_
    show Steps p.tables e below (T1.setTop (mkF m 6 #[.val (.ref ao)] [(.int (2 : Int32)), (.int (2 : Int32))])) _
    refine XS.idiv P1.here hx rfl (hb hby drg2_6) rfl (by decide) ?_
    show Steps p.tables e below (T1.setTop (mkF m 7 #[.val (.ref ao)] [(.int (1 : Int32))])) _
    exact kQ
  show OwnDone p e below _ (T1.setTop (mkF m 7 #[.val (.ref ao)] [(.int (1 : Int32))]))
  refine own_retI C P1 drg2_7 (by decide) (by decide) ⟨rfl, rfl⟩
theorem dfs20_0 : decode prog_12_method_7_code 0 = .ok (.aload_n 0, 1) := by decide +kernel
theorem dfs20_1 : decode prog_12_method_7_code 1 = .ok (.getfield 7, 3) := by decide +kernel
theorem dfs20_4 : decode prog_12_method_7_code 4 = .ok (.iconst 2, 1) := by decide +kernel
theorem dfs20_5 : decode prog_12_method_7_code 5 = .ok (.iload_n 1, 1) := by decide +kernel
theorem dfs20_6 : decode prog_12_method_7_code 6 = .ok (.imul, 1) := by decide +kernel
theorem dfs20_7 : decode prog_12_method_7_code 7 = .ok (.iaload, 1) := by decide +kernel
theorem dfs20_8 : decode prog_12_method_7_code 8 = .ok (.ireturn, 1) := by decide +kernel
theorem pnfs20 : plainName "com/example/bounded_array/boundedarray/regex/CodePointSet" = true := by first | (simp [plainName, overriddenIn]; done) | decide +kernel
theorem effs20 (m : MethodId) (ao : Addr)  : entryFrame m #[(.ref ao), (.int (0 : Int32))] 2 = mkF m 0 #[.val (.ref ao), .val (.int (0 : Int32))] [] := by first | (simp [entryFrame, mkF, argsToLocals, Value.category]; done) | rfl
set_option maxRecDepth 65536 in
set_option maxHeartbeats 40000000 in
theorem rmfs20 (l : Launch) (Z : State) (a0 : Array Value) (hw : ∀ d ∈ tables_1, d.before a0 Z = true) (ao : Addr) (ra : Addr) (k : ClassId) (hs : Int32) (lo hi : Int64) (x0 x1 : Int32) (h0 : Heap) (hE : Ext Z.heap h0)  (Oa : OwnObj Z h0 ao "com/example/bounded_array/boundedarray/regex/CodePointSet" own_lay4 [(.ref ra), (.int hs), (.long lo), (.long hi)]) (Ya : OwnAry Z h0 ra k .int [(.int x0), (.int x1)]) :
    OwnMeets l (⟨"com/example/bounded_array/boundedarray/regex/CodePointSet", "first", "(I)I"⟩ : MethodName) prog_12_method_7_code 2 (some .int) ({ frames := 0, cells := 0, slots := 0, locals := 0 } : Room) Z [] #[(.ref ao), (.int (0 : Int32))] h0 (fun v h => v = some (.int x0) ∧ h0 = h) := by
  refine OwnMeets.of (plainFor_of_name pnfs20) hE all0 ?_
  intro p e s m below meth c T C P
  have hx := C.1
  have hby := C.2.2.2.2.1
  rw [show entryFrame m #[(.ref ao), (.int (0 : Int32))] 2 = _ from effs20 m ao]
  show OwnDone p e below _ (T.setTop (mkF m 0 #[.val (.ref ao), .val (.int (0 : Int32))] []))
  refine OwnDone.go (A := (T.setTop (mkF m 1 #[.val (.ref ao), .val (.int (0 : Int32))] [(.ref ao)]))) (fun tQ kQ => ?_) ?_
  · refine XS.aloadN P.here hx rfl (hb hby dfs20_0) rfl rfl ?_
    show Steps p.tables e below (T.setTop (mkF m 1 #[.val (.ref ao), .val (.int (0 : Int32))] [(.ref ao)])) _
    exact kQ
  show OwnDone p e below _ (T.setTop (mkF m 1 #[.val (.ref ao), .val (.int (0 : Int32))] [(.ref ao)]))
  refine own_getF C P (host := "") (Or.inl (hw _ (List.mem_of_getElem? (i := 158) rfl))) Via.refl (Oa.2 0 _ _ _ _ rfl rfl) dfs20_1 (fun T1 P1 => ?_)
  show OwnDone p e below _ (T1.setTop (mkF m 4 #[.val (.ref ao), .val (.int (0 : Int32))] [(.ref ra)]))
  refine OwnDone.go (A := (T1.setTop (mkF m 8 #[.val (.ref ao), .val (.int (0 : Int32))] [(.int x0)]))) (fun tQ kQ => ?_) ?_
  · refine XS.iconst P1.here hx rfl (hb hby dfs20_4) ?_
    show Steps p.tables e below (T1.setTop (mkF m 5 #[.val (.ref ao), .val (.int (0 : Int32))] [(.int (2 : Int32)), (.ref ra)])) _
    refine XS.iloadN P1.here hx rfl (hb hby dfs20_5) rfl ?_
    show Steps p.tables e below (T1.setTop (mkF m 6 #[.val (.ref ao), .val (.int (0 : Int32))] [(.int (0 : Int32)), (.int (2 : Int32)), (.ref ra)])) _
    refine XS.imul P1.here hx rfl (hb hby dfs20_6) rfl ?_
    show Steps p.tables e below (T1.setTop (mkF m 7 #[.val (.ref ao), .val (.int (0 : Int32))] [(.int (0 : Int32)), (.ref ra)])) _
    refine own_iaload C P1 Ya (by decide) rfl dfs20_7 ?_
    show Steps p.tables e below (T1.setTop (mkF m 8 #[.val (.ref ao), .val (.int (0 : Int32))] [(.int x0)])) _
    exact kQ
  show OwnDone p e below _ (T1.setTop (mkF m 8 #[.val (.ref ao), .val (.int (0 : Int32))] [(.int x0)]))
  refine own_retI C P1 dfs20_8 (by decide) (by decide) ⟨rfl, rfl⟩
theorem dls20_0 : decode prog_12_method_8_code 0 = .ok (.aload_n 0, 1) := by decide +kernel
theorem dls20_1 : decode prog_12_method_8_code 1 = .ok (.getfield 7, 3) := by decide +kernel
theorem dls20_4 : decode prog_12_method_8_code 4 = .ok (.iconst 2, 1) := by decide +kernel
theorem dls20_5 : decode prog_12_method_8_code 5 = .ok (.iload_n 1, 1) := by decide +kernel
theorem dls20_6 : decode prog_12_method_8_code 6 = .ok (.imul, 1) := by decide +kernel
theorem dls20_7 : decode prog_12_method_8_code 7 = .ok (.iconst 1, 1) := by decide +kernel
theorem dls20_8 : decode prog_12_method_8_code 8 = .ok (.iadd, 1) := by decide +kernel
theorem dls20_9 : decode prog_12_method_8_code 9 = .ok (.iaload, 1) := by decide +kernel
theorem dls20_10 : decode prog_12_method_8_code 10 = .ok (.ireturn, 1) := by decide +kernel
theorem pnls20 : plainName "com/example/bounded_array/boundedarray/regex/CodePointSet" = true := by first | (simp [plainName, overriddenIn]; done) | decide +kernel
theorem efls20 (m : MethodId) (ao : Addr)  : entryFrame m #[(.ref ao), (.int (0 : Int32))] 2 = mkF m 0 #[.val (.ref ao), .val (.int (0 : Int32))] [] := by first | (simp [entryFrame, mkF, argsToLocals, Value.category]; done) | rfl
set_option maxRecDepth 65536 in
set_option maxHeartbeats 40000000 in
theorem rmls20 (l : Launch) (Z : State) (a0 : Array Value) (hw : ∀ d ∈ tables_1, d.before a0 Z = true) (ao : Addr) (ra : Addr) (k : ClassId) (hs : Int32) (lo hi : Int64) (x0 x1 : Int32) (h0 : Heap) (hE : Ext Z.heap h0)  (Oa : OwnObj Z h0 ao "com/example/bounded_array/boundedarray/regex/CodePointSet" own_lay4 [(.ref ra), (.int hs), (.long lo), (.long hi)]) (Ya : OwnAry Z h0 ra k .int [(.int x0), (.int x1)]) :
    OwnMeets l (⟨"com/example/bounded_array/boundedarray/regex/CodePointSet", "last", "(I)I"⟩ : MethodName) prog_12_method_8_code 2 (some .int) ({ frames := 0, cells := 0, slots := 0, locals := 0 } : Room) Z [] #[(.ref ao), (.int (0 : Int32))] h0 (fun v h => v = some (.int x1) ∧ h0 = h) := by
  refine OwnMeets.of (plainFor_of_name pnls20) hE all0 ?_
  intro p e s m below meth c T C P
  have hx := C.1
  have hby := C.2.2.2.2.1
  rw [show entryFrame m #[(.ref ao), (.int (0 : Int32))] 2 = _ from efls20 m ao]
  show OwnDone p e below _ (T.setTop (mkF m 0 #[.val (.ref ao), .val (.int (0 : Int32))] []))
  refine OwnDone.go (A := (T.setTop (mkF m 1 #[.val (.ref ao), .val (.int (0 : Int32))] [(.ref ao)]))) (fun tQ kQ => ?_) ?_
  · refine XS.aloadN P.here hx rfl (hb hby dls20_0) rfl rfl ?_
    show Steps p.tables e below (T.setTop (mkF m 1 #[.val (.ref ao), .val (.int (0 : Int32))] [(.ref ao)])) _
    exact kQ
  show OwnDone p e below _ (T.setTop (mkF m 1 #[.val (.ref ao), .val (.int (0 : Int32))] [(.ref ao)]))
  refine own_getF C P (host := "") (Or.inl (hw _ (List.mem_of_getElem? (i := 158) rfl))) Via.refl (Oa.2 0 _ _ _ _ rfl rfl) dls20_1 (fun T1 P1 => ?_)
  show OwnDone p e below _ (T1.setTop (mkF m 4 #[.val (.ref ao), .val (.int (0 : Int32))] [(.ref ra)]))
  refine OwnDone.go (A := (T1.setTop (mkF m 10 #[.val (.ref ao), .val (.int (0 : Int32))] [(.int x1)]))) (fun tQ kQ => ?_) ?_
  · refine XS.iconst P1.here hx rfl (hb hby dls20_4) ?_
    show Steps p.tables e below (T1.setTop (mkF m 5 #[.val (.ref ao), .val (.int (0 : Int32))] [(.int (2 : Int32)), (.ref ra)])) _
    refine XS.iloadN P1.here hx rfl (hb hby dls20_5) rfl ?_
    show Steps p.tables e below (T1.setTop (mkF m 6 #[.val (.ref ao), .val (.int (0 : Int32))] [(.int (0 : Int32)), (.int (2 : Int32)), (.ref ra)])) _
    refine XS.imul P1.here hx rfl (hb hby dls20_6) rfl ?_
    show Steps p.tables e below (T1.setTop (mkF m 7 #[.val (.ref ao), .val (.int (0 : Int32))] [(.int (0 : Int32)), (.ref ra)])) _
    refine XS.iconst P1.here hx rfl (hb hby dls20_7) ?_
    show Steps p.tables e below (T1.setTop (mkF m 8 #[.val (.ref ao), .val (.int (0 : Int32))] [(.int (1 : Int32)), (.int (0 : Int32)), (.ref ra)])) _
    refine XS.iadd P1.here hx rfl (hb hby dls20_8) rfl ?_
    show Steps p.tables e below (T1.setTop (mkF m 9 #[.val (.ref ao), .val (.int (0 : Int32))] [(.int (1 : Int32)), (.ref ra)])) _
    refine own_iaload C P1 Ya (by decide) rfl dls20_9 ?_
    show Steps p.tables e below (T1.setTop (mkF m 10 #[.val (.ref ao), .val (.int (0 : Int32))] [(.int x1)])) _
    exact kQ
  show OwnDone p e below _ (T1.setTop (mkF m 10 #[.val (.ref ao), .val (.int (0 : Int32))] [(.int x1)]))
  refine own_retI C P1 dls20_10 (by decide) (by decide) ⟨rfl, rfl⟩
theorem drg4_0 : decode prog_12_method_6_code 0 = .ok (.aload_n 0, 1) := by decide +kernel
theorem drg4_1 : decode prog_12_method_6_code 1 = .ok (.getfield 7, 3) := by decide +kernel
theorem drg4_4 : decode prog_12_method_6_code 4 = .ok (.arraylength, 1) := by decide +kernel
theorem drg4_5 : decode prog_12_method_6_code 5 = .ok (.iconst 2, 1) := by decide +kernel
theorem drg4_6 : decode prog_12_method_6_code 6 = .ok (.idiv, 1) := by decide +kernel
theorem drg4_7 : decode prog_12_method_6_code 7 = .ok (.ireturn, 1) := by decide +kernel
theorem pnrg4 : plainName "com/example/bounded_array/boundedarray/regex/CodePointSet" = true := by first | (simp [plainName, overriddenIn]; done) | decide +kernel
theorem efrg4 (m : MethodId) (ao : Addr)  : entryFrame m #[(.ref ao)] 1 = mkF m 0 #[.val (.ref ao)] [] := by first | (simp [entryFrame, mkF, argsToLocals, Value.category]; done) | rfl
set_option maxRecDepth 65536 in
set_option maxHeartbeats 40000000 in
theorem rmrg4 (l : Launch) (Z : State) (a0 : Array Value) (hw : ∀ d ∈ tables_1, d.before a0 Z = true) (ao : Addr) (ra : Addr) (k : ClassId) (hs : Int32) (lo hi : Int64) (x0 x1 x2 x3 : Int32) (h0 : Heap) (hE : Ext Z.heap h0)  (Oa : OwnObj Z h0 ao "com/example/bounded_array/boundedarray/regex/CodePointSet" own_lay4 [(.ref ra), (.int hs), (.long lo), (.long hi)]) (Ya : OwnAry Z h0 ra k .int [(.int x0), (.int x1), (.int x2), (.int x3)]) :
    OwnMeets l (⟨"com/example/bounded_array/boundedarray/regex/CodePointSet", "ranges", "()I"⟩ : MethodName) prog_12_method_6_code 1 (some .int) ({ frames := 0, cells := 0, slots := 0, locals := 0 } : Room) Z [] #[(.ref ao)] h0 (fun v h => v = some (.int (2 : Int32)) ∧ h0 = h) := by
  refine OwnMeets.of (plainFor_of_name pnrg4) hE all0 ?_
  intro p e s m below meth c T C P
  have hx := C.1
  have hby := C.2.2.2.2.1
  rw [show entryFrame m #[(.ref ao)] 1 = _ from efrg4 m ao]
  show OwnDone p e below _ (T.setTop (mkF m 0 #[.val (.ref ao)] []))
  refine OwnDone.go (A := (T.setTop (mkF m 1 #[.val (.ref ao)] [(.ref ao)]))) (fun tQ kQ => ?_) ?_
  · refine XS.aloadN P.here hx rfl (hb hby drg4_0) rfl rfl ?_
    show Steps p.tables e below (T.setTop (mkF m 1 #[.val (.ref ao)] [(.ref ao)])) _
    exact kQ
  show OwnDone p e below _ (T.setTop (mkF m 1 #[.val (.ref ao)] [(.ref ao)]))
  refine own_getF C P (host := "") (Or.inl (hw _ (List.mem_of_getElem? (i := 158) rfl))) Via.refl (Oa.2 0 _ _ _ _ rfl rfl) drg4_1 (fun T1 P1 => ?_)
  show OwnDone p e below _ (T1.setTop (mkF m 4 #[.val (.ref ao)] [(.ref ra)]))
  refine OwnDone.go (A := (T1.setTop (mkF m 7 #[.val (.ref ao)] [(.int (2 : Int32))]))) (fun tQ kQ => ?_) ?_
  · refine own_alen C P1 Ya drg4_4 ?_
    show Steps p.tables e below (T1.setTop (mkF m 5 #[.val (.ref ao)] [(.int (4 : Int32))])) _
    refine XS.iconst P1.here hx rfl (hb hby drg4_5) ?_
    show Steps p.tables e below (T1.setTop (mkF m 6 #[.val (.ref ao)] [(.int (2 : Int32)), (.int (4 : Int32))])) _
    refine XS.idiv P1.here hx rfl (hb hby drg4_6) rfl (by decide) ?_
    show Steps p.tables e below (T1.setTop (mkF m 7 #[.val (.ref ao)] [(.int (2 : Int32))])) _
    exact kQ
  show OwnDone p e below _ (T1.setTop (mkF m 7 #[.val (.ref ao)] [(.int (2 : Int32))]))
  refine own_retI C P1 drg4_7 (by decide) (by decide) ⟨rfl, rfl⟩
theorem dfs40_0 : decode prog_12_method_7_code 0 = .ok (.aload_n 0, 1) := by decide +kernel
theorem dfs40_1 : decode prog_12_method_7_code 1 = .ok (.getfield 7, 3) := by decide +kernel
theorem dfs40_4 : decode prog_12_method_7_code 4 = .ok (.iconst 2, 1) := by decide +kernel
theorem dfs40_5 : decode prog_12_method_7_code 5 = .ok (.iload_n 1, 1) := by decide +kernel
theorem dfs40_6 : decode prog_12_method_7_code 6 = .ok (.imul, 1) := by decide +kernel
theorem dfs40_7 : decode prog_12_method_7_code 7 = .ok (.iaload, 1) := by decide +kernel
theorem dfs40_8 : decode prog_12_method_7_code 8 = .ok (.ireturn, 1) := by decide +kernel
theorem pnfs40 : plainName "com/example/bounded_array/boundedarray/regex/CodePointSet" = true := by first | (simp [plainName, overriddenIn]; done) | decide +kernel
theorem effs40 (m : MethodId) (ao : Addr)  : entryFrame m #[(.ref ao), (.int (0 : Int32))] 2 = mkF m 0 #[.val (.ref ao), .val (.int (0 : Int32))] [] := by first | (simp [entryFrame, mkF, argsToLocals, Value.category]; done) | rfl
set_option maxRecDepth 65536 in
set_option maxHeartbeats 40000000 in
theorem rmfs40 (l : Launch) (Z : State) (a0 : Array Value) (hw : ∀ d ∈ tables_1, d.before a0 Z = true) (ao : Addr) (ra : Addr) (k : ClassId) (hs : Int32) (lo hi : Int64) (x0 x1 x2 x3 : Int32) (h0 : Heap) (hE : Ext Z.heap h0)  (Oa : OwnObj Z h0 ao "com/example/bounded_array/boundedarray/regex/CodePointSet" own_lay4 [(.ref ra), (.int hs), (.long lo), (.long hi)]) (Ya : OwnAry Z h0 ra k .int [(.int x0), (.int x1), (.int x2), (.int x3)]) :
    OwnMeets l (⟨"com/example/bounded_array/boundedarray/regex/CodePointSet", "first", "(I)I"⟩ : MethodName) prog_12_method_7_code 2 (some .int) ({ frames := 0, cells := 0, slots := 0, locals := 0 } : Room) Z [] #[(.ref ao), (.int (0 : Int32))] h0 (fun v h => v = some (.int x0) ∧ h0 = h) := by
  refine OwnMeets.of (plainFor_of_name pnfs40) hE all0 ?_
  intro p e s m below meth c T C P
  have hx := C.1
  have hby := C.2.2.2.2.1
  rw [show entryFrame m #[(.ref ao), (.int (0 : Int32))] 2 = _ from effs40 m ao]
  show OwnDone p e below _ (T.setTop (mkF m 0 #[.val (.ref ao), .val (.int (0 : Int32))] []))
  refine OwnDone.go (A := (T.setTop (mkF m 1 #[.val (.ref ao), .val (.int (0 : Int32))] [(.ref ao)]))) (fun tQ kQ => ?_) ?_
  · refine XS.aloadN P.here hx rfl (hb hby dfs40_0) rfl rfl ?_
    show Steps p.tables e below (T.setTop (mkF m 1 #[.val (.ref ao), .val (.int (0 : Int32))] [(.ref ao)])) _
    exact kQ
  show OwnDone p e below _ (T.setTop (mkF m 1 #[.val (.ref ao), .val (.int (0 : Int32))] [(.ref ao)]))
  refine own_getF C P (host := "") (Or.inl (hw _ (List.mem_of_getElem? (i := 158) rfl))) Via.refl (Oa.2 0 _ _ _ _ rfl rfl) dfs40_1 (fun T1 P1 => ?_)
  show OwnDone p e below _ (T1.setTop (mkF m 4 #[.val (.ref ao), .val (.int (0 : Int32))] [(.ref ra)]))
  refine OwnDone.go (A := (T1.setTop (mkF m 8 #[.val (.ref ao), .val (.int (0 : Int32))] [(.int x0)]))) (fun tQ kQ => ?_) ?_
  · refine XS.iconst P1.here hx rfl (hb hby dfs40_4) ?_
    show Steps p.tables e below (T1.setTop (mkF m 5 #[.val (.ref ao), .val (.int (0 : Int32))] [(.int (2 : Int32)), (.ref ra)])) _
    refine XS.iloadN P1.here hx rfl (hb hby dfs40_5) rfl ?_
    show Steps p.tables e below (T1.setTop (mkF m 6 #[.val (.ref ao), .val (.int (0 : Int32))] [(.int (0 : Int32)), (.int (2 : Int32)), (.ref ra)])) _
    refine XS.imul P1.here hx rfl (hb hby dfs40_6) rfl ?_
    show Steps p.tables e below (T1.setTop (mkF m 7 #[.val (.ref ao), .val (.int (0 : Int32))] [(.int (0 : Int32)), (.ref ra)])) _
    refine own_iaload C P1 Ya (by decide) rfl dfs40_7 ?_
    show Steps p.tables e below (T1.setTop (mkF m 8 #[.val (.ref ao), .val (.int (0 : Int32))] [(.int x0)])) _
    exact kQ
  show OwnDone p e below _ (T1.setTop (mkF m 8 #[.val (.ref ao), .val (.int (0 : Int32))] [(.int x0)]))
  refine own_retI C P1 dfs40_8 (by decide) (by decide) ⟨rfl, rfl⟩
theorem dls40_0 : decode prog_12_method_8_code 0 = .ok (.aload_n 0, 1) := by decide +kernel
theorem dls40_1 : decode prog_12_method_8_code 1 = .ok (.getfield 7, 3) := by decide +kernel
theorem dls40_4 : decode prog_12_method_8_code 4 = .ok (.iconst 2, 1) := by decide +kernel
theorem dls40_5 : decode prog_12_method_8_code 5 = .ok (.iload_n 1, 1) := by decide +kernel
theorem dls40_6 : decode prog_12_method_8_code 6 = .ok (.imul, 1) := by decide +kernel
theorem dls40_7 : decode prog_12_method_8_code 7 = .ok (.iconst 1, 1) := by decide +kernel
theorem dls40_8 : decode prog_12_method_8_code 8 = .ok (.iadd, 1) := by decide +kernel
theorem dls40_9 : decode prog_12_method_8_code 9 = .ok (.iaload, 1) := by decide +kernel
theorem dls40_10 : decode prog_12_method_8_code 10 = .ok (.ireturn, 1) := by decide +kernel
theorem pnls40 : plainName "com/example/bounded_array/boundedarray/regex/CodePointSet" = true := by first | (simp [plainName, overriddenIn]; done) | decide +kernel
theorem efls40 (m : MethodId) (ao : Addr)  : entryFrame m #[(.ref ao), (.int (0 : Int32))] 2 = mkF m 0 #[.val (.ref ao), .val (.int (0 : Int32))] [] := by first | (simp [entryFrame, mkF, argsToLocals, Value.category]; done) | rfl
set_option maxRecDepth 65536 in
set_option maxHeartbeats 40000000 in
theorem rmls40 (l : Launch) (Z : State) (a0 : Array Value) (hw : ∀ d ∈ tables_1, d.before a0 Z = true) (ao : Addr) (ra : Addr) (k : ClassId) (hs : Int32) (lo hi : Int64) (x0 x1 x2 x3 : Int32) (h0 : Heap) (hE : Ext Z.heap h0)  (Oa : OwnObj Z h0 ao "com/example/bounded_array/boundedarray/regex/CodePointSet" own_lay4 [(.ref ra), (.int hs), (.long lo), (.long hi)]) (Ya : OwnAry Z h0 ra k .int [(.int x0), (.int x1), (.int x2), (.int x3)]) :
    OwnMeets l (⟨"com/example/bounded_array/boundedarray/regex/CodePointSet", "last", "(I)I"⟩ : MethodName) prog_12_method_8_code 2 (some .int) ({ frames := 0, cells := 0, slots := 0, locals := 0 } : Room) Z [] #[(.ref ao), (.int (0 : Int32))] h0 (fun v h => v = some (.int x1) ∧ h0 = h) := by
  refine OwnMeets.of (plainFor_of_name pnls40) hE all0 ?_
  intro p e s m below meth c T C P
  have hx := C.1
  have hby := C.2.2.2.2.1
  rw [show entryFrame m #[(.ref ao), (.int (0 : Int32))] 2 = _ from efls40 m ao]
  show OwnDone p e below _ (T.setTop (mkF m 0 #[.val (.ref ao), .val (.int (0 : Int32))] []))
  refine OwnDone.go (A := (T.setTop (mkF m 1 #[.val (.ref ao), .val (.int (0 : Int32))] [(.ref ao)]))) (fun tQ kQ => ?_) ?_
  · refine XS.aloadN P.here hx rfl (hb hby dls40_0) rfl rfl ?_
    show Steps p.tables e below (T.setTop (mkF m 1 #[.val (.ref ao), .val (.int (0 : Int32))] [(.ref ao)])) _
    exact kQ
  show OwnDone p e below _ (T.setTop (mkF m 1 #[.val (.ref ao), .val (.int (0 : Int32))] [(.ref ao)]))
  refine own_getF C P (host := "") (Or.inl (hw _ (List.mem_of_getElem? (i := 158) rfl))) Via.refl (Oa.2 0 _ _ _ _ rfl rfl) dls40_1 (fun T1 P1 => ?_)
  show OwnDone p e below _ (T1.setTop (mkF m 4 #[.val (.ref ao), .val (.int (0 : Int32))] [(.ref ra)]))
  refine OwnDone.go (A := (T1.setTop (mkF m 10 #[.val (.ref ao), .val (.int (0 : Int32))] [(.int x1)]))) (fun tQ kQ => ?_) ?_
  · refine XS.iconst P1.here hx rfl (hb hby dls40_4) ?_
    show Steps p.tables e below (T1.setTop (mkF m 5 #[.val (.ref ao), .val (.int (0 : Int32))] [(.int (2 : Int32)), (.ref ra)])) _
    refine XS.iloadN P1.here hx rfl (hb hby dls40_5) rfl ?_
    show Steps p.tables e below (T1.setTop (mkF m 6 #[.val (.ref ao), .val (.int (0 : Int32))] [(.int (0 : Int32)), (.int (2 : Int32)), (.ref ra)])) _
    refine XS.imul P1.here hx rfl (hb hby dls40_6) rfl ?_
    show Steps p.tables e below (T1.setTop (mkF m 7 #[.val (.ref ao), .val (.int (0 : Int32))] [(.int (0 : Int32)), (.ref ra)])) _
    refine XS.iconst P1.here hx rfl (hb hby dls40_7) ?_
    show Steps p.tables e below (T1.setTop (mkF m 8 #[.val (.ref ao), .val (.int (0 : Int32))] [(.int (1 : Int32)), (.int (0 : Int32)), (.ref ra)])) _
    refine XS.iadd P1.here hx rfl (hb hby dls40_8) rfl ?_
    show Steps p.tables e below (T1.setTop (mkF m 9 #[.val (.ref ao), .val (.int (0 : Int32))] [(.int (1 : Int32)), (.ref ra)])) _
    refine own_iaload C P1 Ya (by decide) rfl dls40_9 ?_
    show Steps p.tables e below (T1.setTop (mkF m 10 #[.val (.ref ao), .val (.int (0 : Int32))] [(.int x1)])) _
    exact kQ
  show OwnDone p e below _ (T1.setTop (mkF m 10 #[.val (.ref ao), .val (.int (0 : Int32))] [(.int x1)]))
  refine own_retI C P1 dls40_10 (by decide) (by decide) ⟨rfl, rfl⟩
theorem dfs41_0 : decode prog_12_method_7_code 0 = .ok (.aload_n 0, 1) := by decide +kernel
theorem dfs41_1 : decode prog_12_method_7_code 1 = .ok (.getfield 7, 3) := by decide +kernel
theorem dfs41_4 : decode prog_12_method_7_code 4 = .ok (.iconst 2, 1) := by decide +kernel
theorem dfs41_5 : decode prog_12_method_7_code 5 = .ok (.iload_n 1, 1) := by decide +kernel
theorem dfs41_6 : decode prog_12_method_7_code 6 = .ok (.imul, 1) := by decide +kernel
theorem dfs41_7 : decode prog_12_method_7_code 7 = .ok (.iaload, 1) := by decide +kernel
theorem dfs41_8 : decode prog_12_method_7_code 8 = .ok (.ireturn, 1) := by decide +kernel
theorem pnfs41 : plainName "com/example/bounded_array/boundedarray/regex/CodePointSet" = true := by first | (simp [plainName, overriddenIn]; done) | decide +kernel
theorem effs41 (m : MethodId) (ao : Addr)  : entryFrame m #[(.ref ao), (.int (1 : Int32))] 2 = mkF m 0 #[.val (.ref ao), .val (.int (1 : Int32))] [] := by first | (simp [entryFrame, mkF, argsToLocals, Value.category]; done) | rfl
set_option maxRecDepth 65536 in
set_option maxHeartbeats 40000000 in
theorem rmfs41 (l : Launch) (Z : State) (a0 : Array Value) (hw : ∀ d ∈ tables_1, d.before a0 Z = true) (ao : Addr) (ra : Addr) (k : ClassId) (hs : Int32) (lo hi : Int64) (x0 x1 x2 x3 : Int32) (h0 : Heap) (hE : Ext Z.heap h0)  (Oa : OwnObj Z h0 ao "com/example/bounded_array/boundedarray/regex/CodePointSet" own_lay4 [(.ref ra), (.int hs), (.long lo), (.long hi)]) (Ya : OwnAry Z h0 ra k .int [(.int x0), (.int x1), (.int x2), (.int x3)]) :
    OwnMeets l (⟨"com/example/bounded_array/boundedarray/regex/CodePointSet", "first", "(I)I"⟩ : MethodName) prog_12_method_7_code 2 (some .int) ({ frames := 0, cells := 0, slots := 0, locals := 0 } : Room) Z [] #[(.ref ao), (.int (1 : Int32))] h0 (fun v h => v = some (.int x2) ∧ h0 = h) := by
  refine OwnMeets.of (plainFor_of_name pnfs41) hE all0 ?_
  intro p e s m below meth c T C P
  have hx := C.1
  have hby := C.2.2.2.2.1
  rw [show entryFrame m #[(.ref ao), (.int (1 : Int32))] 2 = _ from effs41 m ao]
  show OwnDone p e below _ (T.setTop (mkF m 0 #[.val (.ref ao), .val (.int (1 : Int32))] []))
  refine OwnDone.go (A := (T.setTop (mkF m 1 #[.val (.ref ao), .val (.int (1 : Int32))] [(.ref ao)]))) (fun tQ kQ => ?_) ?_
  · refine XS.aloadN P.here hx rfl (hb hby dfs41_0) rfl rfl ?_
    show Steps p.tables e below (T.setTop (mkF m 1 #[.val (.ref ao), .val (.int (1 : Int32))] [(.ref ao)])) _
    exact kQ
  show OwnDone p e below _ (T.setTop (mkF m 1 #[.val (.ref ao), .val (.int (1 : Int32))] [(.ref ao)]))
  refine own_getF C P (host := "") (Or.inl (hw _ (List.mem_of_getElem? (i := 158) rfl))) Via.refl (Oa.2 0 _ _ _ _ rfl rfl) dfs41_1 (fun T1 P1 => ?_)
  show OwnDone p e below _ (T1.setTop (mkF m 4 #[.val (.ref ao), .val (.int (1 : Int32))] [(.ref ra)]))
  refine OwnDone.go (A := (T1.setTop (mkF m 8 #[.val (.ref ao), .val (.int (1 : Int32))] [(.int x2)]))) (fun tQ kQ => ?_) ?_
  · refine XS.iconst P1.here hx rfl (hb hby dfs41_4) ?_
    show Steps p.tables e below (T1.setTop (mkF m 5 #[.val (.ref ao), .val (.int (1 : Int32))] [(.int (2 : Int32)), (.ref ra)])) _
    refine XS.iloadN P1.here hx rfl (hb hby dfs41_5) rfl ?_
    show Steps p.tables e below (T1.setTop (mkF m 6 #[.val (.ref ao), .val (.int (1 : Int32))] [(.int (1 : Int32)), (.int (2 : Int32)), (.ref ra)])) _
    refine XS.imul P1.here hx rfl (hb hby dfs41_6) rfl ?_
    show Steps p.tables e below (T1.setTop (mkF m 7 #[.val (.ref ao), .val (.int (1 : Int32))] [(.int (2 : Int32)), (.ref ra)])) _
    refine own_iaload C P1 Ya (by decide) rfl dfs41_7 ?_
    show Steps p.tables e below (T1.setTop (mkF m 8 #[.val (.ref ao), .val (.int (1 : Int32))] [(.int x2)])) _
    exact kQ
  show OwnDone p e below _ (T1.setTop (mkF m 8 #[.val (.ref ao), .val (.int (1 : Int32))] [(.int x2)]))
  refine own_retI C P1 dfs41_8 (by decide) (by decide) ⟨rfl, rfl⟩
theorem dls41_0 : decode prog_12_method_8_code 0 = .ok (.aload_n 0, 1) := by decide +kernel
theorem dls41_1 : decode prog_12_method_8_code 1 = .ok (.getfield 7, 3) := by decide +kernel
theorem dls41_4 : decode prog_12_method_8_code 4 = .ok (.iconst 2, 1) := by decide +kernel
theorem dls41_5 : decode prog_12_method_8_code 5 = .ok (.iload_n 1, 1) := by decide +kernel
theorem dls41_6 : decode prog_12_method_8_code 6 = .ok (.imul, 1) := by decide +kernel
theorem dls41_7 : decode prog_12_method_8_code 7 = .ok (.iconst 1, 1) := by decide +kernel
theorem dls41_8 : decode prog_12_method_8_code 8 = .ok (.iadd, 1) := by decide +kernel
theorem dls41_9 : decode prog_12_method_8_code 9 = .ok (.iaload, 1) := by decide +kernel
theorem dls41_10 : decode prog_12_method_8_code 10 = .ok (.ireturn, 1) := by decide +kernel
theorem pnls41 : plainName "com/example/bounded_array/boundedarray/regex/CodePointSet" = true := by first | (simp [plainName, overriddenIn]; done) | decide +kernel
theorem efls41 (m : MethodId) (ao : Addr)  : entryFrame m #[(.ref ao), (.int (1 : Int32))] 2 = mkF m 0 #[.val (.ref ao), .val (.int (1 : Int32))] [] := by first | (simp [entryFrame, mkF, argsToLocals, Value.category]; done) | rfl
set_option maxRecDepth 65536 in
set_option maxHeartbeats 40000000 in
theorem rmls41 (l : Launch) (Z : State) (a0 : Array Value) (hw : ∀ d ∈ tables_1, d.before a0 Z = true) (ao : Addr) (ra : Addr) (k : ClassId) (hs : Int32) (lo hi : Int64) (x0 x1 x2 x3 : Int32) (h0 : Heap) (hE : Ext Z.heap h0)  (Oa : OwnObj Z h0 ao "com/example/bounded_array/boundedarray/regex/CodePointSet" own_lay4 [(.ref ra), (.int hs), (.long lo), (.long hi)]) (Ya : OwnAry Z h0 ra k .int [(.int x0), (.int x1), (.int x2), (.int x3)]) :
    OwnMeets l (⟨"com/example/bounded_array/boundedarray/regex/CodePointSet", "last", "(I)I"⟩ : MethodName) prog_12_method_8_code 2 (some .int) ({ frames := 0, cells := 0, slots := 0, locals := 0 } : Room) Z [] #[(.ref ao), (.int (1 : Int32))] h0 (fun v h => v = some (.int x3) ∧ h0 = h) := by
  refine OwnMeets.of (plainFor_of_name pnls41) hE all0 ?_
  intro p e s m below meth c T C P
  have hx := C.1
  have hby := C.2.2.2.2.1
  rw [show entryFrame m #[(.ref ao), (.int (1 : Int32))] 2 = _ from efls41 m ao]
  show OwnDone p e below _ (T.setTop (mkF m 0 #[.val (.ref ao), .val (.int (1 : Int32))] []))
  refine OwnDone.go (A := (T.setTop (mkF m 1 #[.val (.ref ao), .val (.int (1 : Int32))] [(.ref ao)]))) (fun tQ kQ => ?_) ?_
  · refine XS.aloadN P.here hx rfl (hb hby dls41_0) rfl rfl ?_
    show Steps p.tables e below (T.setTop (mkF m 1 #[.val (.ref ao), .val (.int (1 : Int32))] [(.ref ao)])) _
    exact kQ
  show OwnDone p e below _ (T.setTop (mkF m 1 #[.val (.ref ao), .val (.int (1 : Int32))] [(.ref ao)]))
  refine own_getF C P (host := "") (Or.inl (hw _ (List.mem_of_getElem? (i := 158) rfl))) Via.refl (Oa.2 0 _ _ _ _ rfl rfl) dls41_1 (fun T1 P1 => ?_)
  show OwnDone p e below _ (T1.setTop (mkF m 4 #[.val (.ref ao), .val (.int (1 : Int32))] [(.ref ra)]))
  refine OwnDone.go (A := (T1.setTop (mkF m 10 #[.val (.ref ao), .val (.int (1 : Int32))] [(.int x3)]))) (fun tQ kQ => ?_) ?_
  · refine XS.iconst P1.here hx rfl (hb hby dls41_4) ?_
    show Steps p.tables e below (T1.setTop (mkF m 5 #[.val (.ref ao), .val (.int (1 : Int32))] [(.int (2 : Int32)), (.ref ra)])) _
    refine XS.iloadN P1.here hx rfl (hb hby dls41_5) rfl ?_
    show Steps p.tables e below (T1.setTop (mkF m 6 #[.val (.ref ao), .val (.int (1 : Int32))] [(.int (1 : Int32)), (.int (2 : Int32)), (.ref ra)])) _
    refine XS.imul P1.here hx rfl (hb hby dls41_6) rfl ?_
    show Steps p.tables e below (T1.setTop (mkF m 7 #[.val (.ref ao), .val (.int (1 : Int32))] [(.int (2 : Int32)), (.ref ra)])) _
    refine XS.iconst P1.here hx rfl (hb hby dls41_7) ?_
    show Steps p.tables e below (T1.setTop (mkF m 8 #[.val (.ref ao), .val (.int (1 : Int32))] [(.int (1 : Int32)), (.int (2 : Int32)), (.ref ra)])) _
    refine XS.iadd P1.here hx rfl (hb hby dls41_8) rfl ?_
    show Steps p.tables e below (T1.setTop (mkF m 9 #[.val (.ref ao), .val (.int (1 : Int32))] [(.int (3 : Int32)), (.ref ra)])) _
    refine own_iaload C P1 Ya (by decide) rfl dls41_9 ?_
    show Steps p.tables e below (T1.setTop (mkF m 10 #[.val (.ref ao), .val (.int (1 : Int32))] [(.int x3)])) _
    exact kQ
  show OwnDone p e below _ (T1.setTop (mkF m 10 #[.val (.ref ao), .val (.int (1 : Int32))] [(.int x3)]))
  refine own_retI C P1 dls41_10 (by decide) (by decide) ⟨rfl, rfl⟩
theorem dmr0_0 : decode prog_13_method_4_code 0 = .ok (.aload_n 0, 1) := by decide +kernel
theorem dmr0_1 : decode prog_13_method_4_code 1 = .ok (.getfield 30, 3) := by decide +kernel
theorem dmr0_4 : decode prog_13_method_4_code 4 = .ok (.iload_n 1, 1) := by decide +kernel
theorem dmr0_5 : decode prog_13_method_4_code 5 = .ok (.iadd, 1) := by decide +kernel
theorem dmr0_6 : decode prog_13_method_4_code 6 = .ok (.aload_n 0, 1) := by decide +kernel
theorem dmr0_7 : decode prog_13_method_4_code 7 = .ok (.getfield 7, 3) := by decide +kernel
theorem dmr0_10 : decode prog_13_method_4_code 10 = .ok (.arraylength, 1) := by decide +kernel
theorem dmr0_11 : decode prog_13_method_4_code 11 = .ok (.if_icmp .le 30, 3) := by decide +kernel
theorem dmr0_41 : decode prog_13_method_4_code 41 = .ok (.return_, 1) := by decide +kernel
theorem pnmr0 : plainName "com/example/bounded_array/boundedarray/regex/CodePointSet$Builder" = true := by first | (simp [plainName, overriddenIn]; done) | decide +kernel
theorem efmr0 (m : MethodId) (ao : Addr)  : entryFrame m #[(.ref ao), (.int (2 : Int32))] 2 = mkF m 0 #[.val (.ref ao), .val (.int (2 : Int32))] [] := by first | (simp [entryFrame, mkF, argsToLocals, Value.category]; done) | rfl
set_option maxRecDepth 65536 in
set_option maxHeartbeats 40000000 in
theorem rmmr0 (l : Launch) (Z : State) (a0 : Array Value) (hw : ∀ d ∈ tables_1, d.before a0 Z = true) (ao : Addr) (b sw : Addr) (k : ClassId)  (h0 : Heap) (hE : Ext Z.heap h0)  (Oa : OwnObj Z h0 ao "com/example/bounded_array/boundedarray/regex/CodePointSet$Builder" own_lay3 [(.ref b), (.ref sw), (.int (0 : Int32))]) (Ya : OwnAry Z h0 b k .int [(.int (0 : Int32)), (.int (0 : Int32)), (.int (0 : Int32)), (.int (0 : Int32)), (.int (0 : Int32)), (.int (0 : Int32)), (.int (0 : Int32)), (.int (0 : Int32)), (.int (0 : Int32)), (.int (0 : Int32)), (.int (0 : Int32)), (.int (0 : Int32)), (.int (0 : Int32)), (.int (0 : Int32)), (.int (0 : Int32)), (.int (0 : Int32))]) :
    OwnMeets l (⟨"com/example/bounded_array/boundedarray/regex/CodePointSet$Builder", "makeRoom", "(I)V"⟩ : MethodName) prog_13_method_4_code 2 none ({ frames := 0, cells := 0, slots := 0, locals := 0 } : Room) Z [] #[(.ref ao), (.int (2 : Int32))] h0 (fun v h => v = none ∧ h0 = h) := by
  refine OwnMeets.of (plainFor_of_name pnmr0) hE all0 ?_
  intro p e s m below meth c T C P
  have hx := C.1
  have hby := C.2.2.2.2.1
  rw [show entryFrame m #[(.ref ao), (.int (2 : Int32))] 2 = _ from efmr0 m ao]
  show OwnDone p e below _ (T.setTop (mkF m 0 #[.val (.ref ao), .val (.int (2 : Int32))] []))
  refine OwnDone.go (A := (T.setTop (mkF m 1 #[.val (.ref ao), .val (.int (2 : Int32))] [(.ref ao)]))) (fun tQ kQ => ?_) ?_
  · refine XS.aloadN P.here hx rfl (hb hby dmr0_0) rfl rfl ?_
    show Steps p.tables e below (T.setTop (mkF m 1 #[.val (.ref ao), .val (.int (2 : Int32))] [(.ref ao)])) _
    exact kQ
  show OwnDone p e below _ (T.setTop (mkF m 1 #[.val (.ref ao), .val (.int (2 : Int32))] [(.ref ao)]))
  refine own_getF C P (host := "") (Or.inl (hw _ (List.mem_of_getElem? (i := 120) rfl))) Via.refl (Oa.2 2 _ _ _ _ rfl rfl) dmr0_1 (fun T1 P1 => ?_)
  show OwnDone p e below _ (T1.setTop (mkF m 4 #[.val (.ref ao), .val (.int (2 : Int32))] [(.int (0 : Int32))]))
  refine OwnDone.go (A := (T1.setTop (mkF m 7 #[.val (.ref ao), .val (.int (2 : Int32))] [(.ref ao), (.int (2 : Int32))]))) (fun tQ kQ => ?_) ?_
  · refine XS.iloadN P1.here hx rfl (hb hby dmr0_4) rfl ?_
    show Steps p.tables e below (T1.setTop (mkF m 5 #[.val (.ref ao), .val (.int (2 : Int32))] [(.int (2 : Int32)), (.int (0 : Int32))])) _
    refine XS.iadd P1.here hx rfl (hb hby dmr0_5) rfl ?_
    show Steps p.tables e below (T1.setTop (mkF m 6 #[.val (.ref ao), .val (.int (2 : Int32))] [(.int (2 : Int32))])) _
    refine XS.aloadN P1.here hx rfl (hb hby dmr0_6) rfl rfl ?_
    show Steps p.tables e below (T1.setTop (mkF m 7 #[.val (.ref ao), .val (.int (2 : Int32))] [(.ref ao), (.int (2 : Int32))])) _
    exact kQ
  show OwnDone p e below _ (T1.setTop (mkF m 7 #[.val (.ref ao), .val (.int (2 : Int32))] [(.ref ao), (.int (2 : Int32))]))
  refine own_getF C P1 (host := "") (Or.inl (hw _ (List.mem_of_getElem? (i := 23) rfl))) Via.refl (Oa.2 0 _ _ _ _ rfl rfl) dmr0_7 (fun T2 P2 => ?_)
  show OwnDone p e below _ (T2.setTop (mkF m 10 #[.val (.ref ao), .val (.int (2 : Int32))] [(.ref b), (.int (2 : Int32))]))
  refine OwnDone.go (A := (T2.setTop (mkF m 11 #[.val (.ref ao), .val (.int (2 : Int32))] [(.int (16 : Int32)), (.int (2 : Int32))]))) (fun tQ kQ => ?_) ?_
  · refine own_alen C P2 Ya dmr0_10 ?_
    show Steps p.tables e below (T2.setTop (mkF m 11 #[.val (.ref ao), .val (.int (2 : Int32))] [(.int (16 : Int32)), (.int (2 : Int32))])) _
    exact kQ
  show OwnDone p e below _ (T2.setTop (mkF m 11 #[.val (.ref ao), .val (.int (2 : Int32))] [(.int (16 : Int32)), (.int (2 : Int32))]))
  refine OwnDone.go (A := (T2.setTop (mkF m 41 #[.val (.ref ao), .val (.int (2 : Int32))] []))) (fun tQ kQ => XS.icmpYes P2.here hx rfl (pc0 := 11) (pc' := 41) rfl (hb hby dmr0_11) rfl (XT.ii_le_t (by decide)) (by decide) (by decide) kQ) ?_
  show OwnDone p e below _ (T2.setTop (mkF m 41 #[.val (.ref ao), .val (.int (2 : Int32))] []))
  refine own_retV C P2 dmr0_41 (by decide) (by decide) ⟨rfl, rfl⟩
theorem dad0_0 : decode prog_13_method_2_code 0 = .ok (.aload_n 0, 1) := by decide +kernel
theorem dad0_1 : decode prog_13_method_2_code 1 = .ok (.iconst 2, 1) := by decide +kernel
theorem dad0_2 : decode prog_13_method_2_code 2 = .ok (.invokevirtual 26, 3) := by decide +kernel
theorem dad0_5 : decode prog_13_method_2_code 5 = .ok (.aload_n 0, 1) := by decide +kernel
theorem dad0_6 : decode prog_13_method_2_code 6 = .ok (.getfield 7, 3) := by decide +kernel
theorem dad0_9 : decode prog_13_method_2_code 9 = .ok (.aload_n 0, 1) := by decide +kernel
theorem dad0_10 : decode prog_13_method_2_code 10 = .ok (.getfield 30, 3) := by decide +kernel
theorem dad0_13 : decode prog_13_method_2_code 13 = .ok (.iload_n 1, 1) := by decide +kernel
theorem dad0_14 : decode prog_13_method_2_code 14 = .ok (.iastore, 1) := by decide +kernel
theorem dad0_15 : decode prog_13_method_2_code 15 = .ok (.aload_n 0, 1) := by decide +kernel
theorem dad0_16 : decode prog_13_method_2_code 16 = .ok (.getfield 7, 3) := by decide +kernel
theorem dad0_19 : decode prog_13_method_2_code 19 = .ok (.aload_n 0, 1) := by decide +kernel
theorem dad0_20 : decode prog_13_method_2_code 20 = .ok (.getfield 30, 3) := by decide +kernel
theorem dad0_23 : decode prog_13_method_2_code 23 = .ok (.iconst 1, 1) := by decide +kernel
theorem dad0_24 : decode prog_13_method_2_code 24 = .ok (.iadd, 1) := by decide +kernel
theorem dad0_25 : decode prog_13_method_2_code 25 = .ok (.iload_n 2, 1) := by decide +kernel
theorem dad0_26 : decode prog_13_method_2_code 26 = .ok (.iastore, 1) := by decide +kernel
theorem dad0_27 : decode prog_13_method_2_code 27 = .ok (.aload_n 0, 1) := by decide +kernel
theorem dad0_28 : decode prog_13_method_2_code 28 = .ok (.dup, 1) := by decide +kernel
theorem dad0_29 : decode prog_13_method_2_code 29 = .ok (.getfield 30, 3) := by decide +kernel
theorem dad0_32 : decode prog_13_method_2_code 32 = .ok (.iconst 2, 1) := by decide +kernel
theorem dad0_33 : decode prog_13_method_2_code 33 = .ok (.iadd, 1) := by decide +kernel
theorem dad0_34 : decode prog_13_method_2_code 34 = .ok (.putfield 30, 3) := by decide +kernel
theorem dad0_37 : decode prog_13_method_2_code 37 = .ok (.return_, 1) := by decide +kernel
theorem pnad0 : plainName "com/example/bounded_array/boundedarray/regex/CodePointSet$Builder" = true := by first | (simp [plainName, overriddenIn]; done) | decide +kernel
theorem efad0 (m : MethodId) (ao : Addr) (u : Int32) (w : Int32)  : entryFrame m #[(.ref ao), (.int u), (.int w)] 3 = mkF m 0 #[.val (.ref ao), .val (.int u), .val (.int w)] [] := by first | (simp [entryFrame, mkF, argsToLocals, Value.category]; done) | rfl
set_option maxRecDepth 65536 in
set_option maxHeartbeats 40000000 in
theorem rmad0 (l : Launch) (Z : State) (a0 : Array Value) (hw : ∀ d ∈ tables_1, d.before a0 Z = true) (ao : Addr) (u : Int32) (w : Int32) (b sw : Addr) (k : ClassId)  (h0 : Heap) (hE : Ext Z.heap h0) (g_ao : Z.heap.size ≤ ao) (g_b : Z.heap.size ≤ b) (Oa : OwnObj Z h0 ao "com/example/bounded_array/boundedarray/regex/CodePointSet$Builder" own_lay3 [(.ref b), (.ref sw), (.int (0 : Int32))]) (Ya : OwnAry Z h0 b k .int [(.int (0 : Int32)), (.int (0 : Int32)), (.int (0 : Int32)), (.int (0 : Int32)), (.int (0 : Int32)), (.int (0 : Int32)), (.int (0 : Int32)), (.int (0 : Int32)), (.int (0 : Int32)), (.int (0 : Int32)), (.int (0 : Int32)), (.int (0 : Int32)), (.int (0 : Int32)), (.int (0 : Int32)), (.int (0 : Int32)), (.int (0 : Int32))]) (nba : b ≠ ao) :
    OwnMeets l (⟨"com/example/bounded_array/boundedarray/regex/CodePointSet$Builder", "add", "(II)V"⟩ : MethodName) prog_13_method_2_code 3 none ({ frames := 1, cells := 0, slots := 0, locals := 13 } : Room) Z [ao, b] #[(.ref ao), (.int u), (.int w)] h0 (fun v h => v = none ∧ OwnObj Z h ao "com/example/bounded_array/boundedarray/regex/CodePointSet$Builder" own_lay3 [(.ref b), (.ref sw), (.int (2 : Int32))] ∧ OwnAry Z h b k .int [(.int u), (.int w), (.int (0 : Int32)), (.int (0 : Int32)), (.int (0 : Int32)), (.int (0 : Int32)), (.int (0 : Int32)), (.int (0 : Int32)), (.int (0 : Int32)), (.int (0 : Int32)), (.int (0 : Int32)), (.int (0 : Int32)), (.int (0 : Int32)), (.int (0 : Int32)), (.int (0 : Int32)), (.int (0 : Int32))]) := by
  refine OwnMeets.of (plainFor_of_name pnad0) hE (allS g_ao (allS g_b all0)) ?_
  intro p e s m below meth c T C P
  have hx := C.1
  have hby := C.2.2.2.2.1
  rw [show entryFrame m #[(.ref ao), (.int u), (.int w)] 3 = _ from efad0 m ao u w]
  show OwnDone p e below _ (T.setTop (mkF m 0 #[.val (.ref ao), .val (.int u), .val (.int w)] []))
  refine OwnDone.go (A := (T.setTop (mkF m 2 #[.val (.ref ao), .val (.int u), .val (.int w)] [(.int (2 : Int32)), (.ref ao)]))) (fun tQ kQ => ?_) ?_
  · refine XS.aloadN P.here hx rfl (hb hby dad0_0) rfl rfl ?_
    show Steps p.tables e below (T.setTop (mkF m 1 #[.val (.ref ao), .val (.int u), .val (.int w)] [(.ref ao)])) _
    refine XS.iconst P.here hx rfl (hb hby dad0_1) ?_
    show Steps p.tables e below (T.setTop (mkF m 2 #[.val (.ref ao), .val (.int u), .val (.int w)] [(.int (2 : Int32)), (.ref ao)])) _
    exact kQ
  show OwnDone p e below _ (T.setTop (mkF m 2 #[.val (.ref ao), .val (.int u), .val (.int w)] [(.int (2 : Int32)), (.ref ao)]))
  refine own_callP (y := (⟨"com/example/bounded_array/boundedarray/regex/CodePointSet$Builder", "makeRoom", "(I)V"⟩ : MethodName)) C P Oa.1 (hw _ (List.mem_of_getElem? (i := 116) rfl)) (hw _ (List.mem_of_getElem? (i := 117) rfl)) (hw _ (List.mem_of_getElem? (i := 14) rfl)) (hw _ (List.mem_of_getElem? (i := 118) rfl)) (hw _ (List.mem_of_getElem? (i := 15) rfl)) (hw _ (List.mem_of_getElem? (i := 119) rfl)) (by decide) (rmmr0 l Z a0 hw ao b sw k  h0 P.old Oa Ya) (as := [(.int (2 : Int32))]) (rest := []) pd_1 rfl rfl (wd := 0) rfl rfl dad0_2 all0 (by decide) (by decide) (by decide) (by decide) (fun T1 h1 v1 P1 K1 hQ1 => ?_)
  obtain ⟨rfl, rfl⟩ := hQ1
  show OwnDone p e below _ (T1.setTop (mkF m 5 #[.val (.ref ao), .val (.int u), .val (.int w)] []))
  refine OwnDone.go (A := (T1.setTop (mkF m 6 #[.val (.ref ao), .val (.int u), .val (.int w)] [(.ref ao)]))) (fun tQ kQ => ?_) ?_
  · refine XS.aloadN P1.here hx rfl (hb hby dad0_5) rfl rfl ?_
    show Steps p.tables e below (T1.setTop (mkF m 6 #[.val (.ref ao), .val (.int u), .val (.int w)] [(.ref ao)])) _
    exact kQ
  show OwnDone p e below _ (T1.setTop (mkF m 6 #[.val (.ref ao), .val (.int u), .val (.int w)] [(.ref ao)]))
  refine own_getF C P1 (host := "") (Or.inl (hw _ (List.mem_of_getElem? (i := 23) rfl))) Via.refl (Oa.2 0 _ _ _ _ rfl rfl) dad0_6 (fun T2 P2 => ?_)
  show OwnDone p e below _ (T2.setTop (mkF m 9 #[.val (.ref ao), .val (.int u), .val (.int w)] [(.ref b)]))
  refine OwnDone.go (A := (T2.setTop (mkF m 10 #[.val (.ref ao), .val (.int u), .val (.int w)] [(.ref ao), (.ref b)]))) (fun tQ kQ => ?_) ?_
  · refine XS.aloadN P2.here hx rfl (hb hby dad0_9) rfl rfl ?_
    show Steps p.tables e below (T2.setTop (mkF m 10 #[.val (.ref ao), .val (.int u), .val (.int w)] [(.ref ao), (.ref b)])) _
    exact kQ
  show OwnDone p e below _ (T2.setTop (mkF m 10 #[.val (.ref ao), .val (.int u), .val (.int w)] [(.ref ao), (.ref b)]))
  refine own_getF C P2 (host := "") (Or.inl (hw _ (List.mem_of_getElem? (i := 120) rfl))) Via.refl (Oa.2 2 _ _ _ _ rfl rfl) dad0_10 (fun T3 P3 => ?_)
  show OwnDone p e below _ (T3.setTop (mkF m 13 #[.val (.ref ao), .val (.int u), .val (.int w)] [(.int (0 : Int32)), (.ref b)]))
  refine OwnDone.go (A := (T3.setTop (mkF m 14 #[.val (.ref ao), .val (.int u), .val (.int w)] [(.int u), (.int (0 : Int32)), (.ref b)]))) (fun tQ kQ => ?_) ?_
  · refine XS.iloadN P3.here hx rfl (hb hby dad0_13) rfl ?_
    show Steps p.tables e below (T3.setTop (mkF m 14 #[.val (.ref ao), .val (.int u), .val (.int w)] [(.int u), (.int (0 : Int32)), (.ref b)])) _
    exact kQ
  show OwnDone p e below _ (T3.setTop (mkF m 14 #[.val (.ref ao), .val (.int u), .val (.int w)] [(.int u), (.int (0 : Int32)), (.ref b)]))
  refine own_iastore C P3 Ya (by decide) (show ((0 : Int32) : Int32).toNatClampNeg < 16 from by decide) (Or.inl (List.mem_of_getElem? (i := 1) rfl)) dad0_14 (vs' := [(.int u), (.int (0 : Int32)), (.int (0 : Int32)), (.int (0 : Int32)), (.int (0 : Int32)), (.int (0 : Int32)), (.int (0 : Int32)), (.int (0 : Int32)), (.int (0 : Int32)), (.int (0 : Int32)), (.int (0 : Int32)), (.int (0 : Int32)), (.int (0 : Int32)), (.int (0 : Int32)), (.int (0 : Int32)), (.int (0 : Int32))]) rfl (fun T4 h4 P4 K4 Y4 => ?_)
  have O5_ao := Oa.keep K4 (ninS (Ne.symm nba) nin0)
  show OwnDone p e below _ (T4.setTop (mkF m 15 #[.val (.ref ao), .val (.int u), .val (.int w)] []))
  refine OwnDone.go (A := (T4.setTop (mkF m 16 #[.val (.ref ao), .val (.int u), .val (.int w)] [(.ref ao)]))) (fun tQ kQ => ?_) ?_
  · refine XS.aloadN P4.here hx rfl (hb hby dad0_15) rfl rfl ?_
    show Steps p.tables e below (T4.setTop (mkF m 16 #[.val (.ref ao), .val (.int u), .val (.int w)] [(.ref ao)])) _
    exact kQ
  show OwnDone p e below _ (T4.setTop (mkF m 16 #[.val (.ref ao), .val (.int u), .val (.int w)] [(.ref ao)]))
  refine own_getF C P4 (host := "") (Or.inl (hw _ (List.mem_of_getElem? (i := 23) rfl))) Via.refl (O5_ao.2 0 _ _ _ _ rfl rfl) dad0_16 (fun T6 P6 => ?_)
  show OwnDone p e below _ (T6.setTop (mkF m 19 #[.val (.ref ao), .val (.int u), .val (.int w)] [(.ref b)]))
  refine OwnDone.go (A := (T6.setTop (mkF m 20 #[.val (.ref ao), .val (.int u), .val (.int w)] [(.ref ao), (.ref b)]))) (fun tQ kQ => ?_) ?_
  · refine XS.aloadN P6.here hx rfl (hb hby dad0_19) rfl rfl ?_
    show Steps p.tables e below (T6.setTop (mkF m 20 #[.val (.ref ao), .val (.int u), .val (.int w)] [(.ref ao), (.ref b)])) _
    exact kQ
  show OwnDone p e below _ (T6.setTop (mkF m 20 #[.val (.ref ao), .val (.int u), .val (.int w)] [(.ref ao), (.ref b)]))
  refine own_getF C P6 (host := "") (Or.inl (hw _ (List.mem_of_getElem? (i := 120) rfl))) Via.refl (O5_ao.2 2 _ _ _ _ rfl rfl) dad0_20 (fun T7 P7 => ?_)
  show OwnDone p e below _ (T7.setTop (mkF m 23 #[.val (.ref ao), .val (.int u), .val (.int w)] [(.int (0 : Int32)), (.ref b)]))
  refine OwnDone.go (A := (T7.setTop (mkF m 26 #[.val (.ref ao), .val (.int u), .val (.int w)] [(.int w), (.int (1 : Int32)), (.ref b)]))) (fun tQ kQ => ?_) ?_
  · refine XS.iconst P7.here hx rfl (hb hby dad0_23) ?_
    show Steps p.tables e below (T7.setTop (mkF m 24 #[.val (.ref ao), .val (.int u), .val (.int w)] [(.int (1 : Int32)), (.int (0 : Int32)), (.ref b)])) _
    refine XS.iadd P7.here hx rfl (hb hby dad0_24) rfl ?_
    show Steps p.tables e below (T7.setTop (mkF m 25 #[.val (.ref ao), .val (.int u), .val (.int w)] [(.int (1 : Int32)), (.ref b)])) _
    refine XS.iloadN P7.here hx rfl (hb hby dad0_25) rfl ?_
    show Steps p.tables e below (T7.setTop (mkF m 26 #[.val (.ref ao), .val (.int u), .val (.int w)] [(.int w), (.int (1 : Int32)), (.ref b)])) _
    exact kQ
  show OwnDone p e below _ (T7.setTop (mkF m 26 #[.val (.ref ao), .val (.int u), .val (.int w)] [(.int w), (.int (1 : Int32)), (.ref b)]))
  refine own_iastore C P7 Y4 (by decide) (show ((1 : Int32) : Int32).toNatClampNeg < 16 from by decide) (Or.inl (List.mem_of_getElem? (i := 1) rfl)) dad0_26 (vs' := [(.int u), (.int w), (.int (0 : Int32)), (.int (0 : Int32)), (.int (0 : Int32)), (.int (0 : Int32)), (.int (0 : Int32)), (.int (0 : Int32)), (.int (0 : Int32)), (.int (0 : Int32)), (.int (0 : Int32)), (.int (0 : Int32)), (.int (0 : Int32)), (.int (0 : Int32)), (.int (0 : Int32)), (.int (0 : Int32))]) rfl (fun T8 h8 P8 K8 Y8 => ?_)
  have O9_ao := O5_ao.keep K8 (ninS (Ne.symm nba) nin0)
  show OwnDone p e below _ (T8.setTop (mkF m 27 #[.val (.ref ao), .val (.int u), .val (.int w)] []))
  refine OwnDone.go (A := (T8.setTop (mkF m 29 #[.val (.ref ao), .val (.int u), .val (.int w)] [(.ref ao), (.ref ao)]))) (fun tQ kQ => ?_) ?_
  · refine XS.aloadN P8.here hx rfl (hb hby dad0_27) rfl rfl ?_
    show Steps p.tables e below (T8.setTop (mkF m 28 #[.val (.ref ao), .val (.int u), .val (.int w)] [(.ref ao)])) _
    refine XS.dup P8.here hx rfl (hb hby dad0_28) rfl rfl ?_
    show Steps p.tables e below (T8.setTop (mkF m 29 #[.val (.ref ao), .val (.int u), .val (.int w)] [(.ref ao), (.ref ao)])) _
    exact kQ
  show OwnDone p e below _ (T8.setTop (mkF m 29 #[.val (.ref ao), .val (.int u), .val (.int w)] [(.ref ao), (.ref ao)]))
  refine own_getF C P8 (host := "") (Or.inl (hw _ (List.mem_of_getElem? (i := 120) rfl))) Via.refl (O9_ao.2 2 _ _ _ _ rfl rfl) dad0_29 (fun T10 P10 => ?_)
  show OwnDone p e below _ (T10.setTop (mkF m 32 #[.val (.ref ao), .val (.int u), .val (.int w)] [(.int (0 : Int32)), (.ref ao)]))
  refine OwnDone.go (A := (T10.setTop (mkF m 34 #[.val (.ref ao), .val (.int u), .val (.int w)] [(.int (2 : Int32)), (.ref ao)]))) (fun tQ kQ => ?_) ?_
  · refine XS.iconst P10.here hx rfl (hb hby dad0_32) ?_
    show Steps p.tables e below (T10.setTop (mkF m 33 #[.val (.ref ao), .val (.int u), .val (.int w)] [(.int (2 : Int32)), (.int (0 : Int32)), (.ref ao)])) _
    refine XS.iadd P10.here hx rfl (hb hby dad0_33) rfl ?_
    show Steps p.tables e below (T10.setTop (mkF m 34 #[.val (.ref ao), .val (.int u), .val (.int w)] [(.int (2 : Int32)), (.ref ao)])) _
    exact kQ
  show OwnDone p e below _ (T10.setTop (mkF m 34 #[.val (.ref ao), .val (.int u), .val (.int w)] [(.int (2 : Int32)), (.ref ao)]))
  refine own_putO (ty := .int) C P10 (hw _ (List.mem_of_getElem? (i := 120) rfl)) Via.refl O9_ao (own_laid3 hw) 2 rfl rfl (Or.inl (hw _ (List.mem_of_getElem? (i := 121) rfl))) (hw _ (List.mem_of_getElem? (i := 14) rfl)) (by decide) rfl rfl (Or.inl (List.mem_of_getElem? (i := 0) rfl)) dad0_34 (vs' := [(.ref b), (.ref sw), (.int (2 : Int32))]) rfl (fun T11 h11 P11 K11 O11 => ?_)
  have Y12_b := Y8.keep K11 (ninS nba nin0)
  show OwnDone p e below _ (T11.setTop (mkF m 37 #[.val (.ref ao), .val (.int u), .val (.int w)] []))
  refine own_retV C P11 dad0_37 (by decide) (by decide) ⟨rfl, O11, Y12_b⟩
theorem dmr2_0 : decode prog_13_method_4_code 0 = .ok (.aload_n 0, 1) := by decide +kernel
theorem dmr2_1 : decode prog_13_method_4_code 1 = .ok (.getfield 30, 3) := by decide +kernel
theorem dmr2_4 : decode prog_13_method_4_code 4 = .ok (.iload_n 1, 1) := by decide +kernel
theorem dmr2_5 : decode prog_13_method_4_code 5 = .ok (.iadd, 1) := by decide +kernel
theorem dmr2_6 : decode prog_13_method_4_code 6 = .ok (.aload_n 0, 1) := by decide +kernel
theorem dmr2_7 : decode prog_13_method_4_code 7 = .ok (.getfield 7, 3) := by decide +kernel
theorem dmr2_10 : decode prog_13_method_4_code 10 = .ok (.arraylength, 1) := by decide +kernel
theorem dmr2_11 : decode prog_13_method_4_code 11 = .ok (.if_icmp .le 30, 3) := by decide +kernel
theorem dmr2_41 : decode prog_13_method_4_code 41 = .ok (.return_, 1) := by decide +kernel
theorem pnmr2 : plainName "com/example/bounded_array/boundedarray/regex/CodePointSet$Builder" = true := by first | (simp [plainName, overriddenIn]; done) | decide +kernel
theorem efmr2 (m : MethodId) (ao : Addr)  : entryFrame m #[(.ref ao), (.int (2 : Int32))] 2 = mkF m 0 #[.val (.ref ao), .val (.int (2 : Int32))] [] := by first | (simp [entryFrame, mkF, argsToLocals, Value.category]; done) | rfl
set_option maxRecDepth 65536 in
set_option maxHeartbeats 40000000 in
theorem rmmr2 (l : Launch) (Z : State) (a0 : Array Value) (hw : ∀ d ∈ tables_1, d.before a0 Z = true) (ao : Addr) (b sw : Addr) (k : ClassId) (x0 x1 : Int32) (h0 : Heap) (hE : Ext Z.heap h0)  (Oa : OwnObj Z h0 ao "com/example/bounded_array/boundedarray/regex/CodePointSet$Builder" own_lay3 [(.ref b), (.ref sw), (.int (2 : Int32))]) (Ya : OwnAry Z h0 b k .int [(.int x0), (.int x1), (.int (0 : Int32)), (.int (0 : Int32)), (.int (0 : Int32)), (.int (0 : Int32)), (.int (0 : Int32)), (.int (0 : Int32)), (.int (0 : Int32)), (.int (0 : Int32)), (.int (0 : Int32)), (.int (0 : Int32)), (.int (0 : Int32)), (.int (0 : Int32)), (.int (0 : Int32)), (.int (0 : Int32))]) :
    OwnMeets l (⟨"com/example/bounded_array/boundedarray/regex/CodePointSet$Builder", "makeRoom", "(I)V"⟩ : MethodName) prog_13_method_4_code 2 none ({ frames := 0, cells := 0, slots := 0, locals := 0 } : Room) Z [] #[(.ref ao), (.int (2 : Int32))] h0 (fun v h => v = none ∧ h0 = h) := by
  refine OwnMeets.of (plainFor_of_name pnmr2) hE all0 ?_
  intro p e s m below meth c T C P
  have hx := C.1
  have hby := C.2.2.2.2.1
  rw [show entryFrame m #[(.ref ao), (.int (2 : Int32))] 2 = _ from efmr2 m ao]
  show OwnDone p e below _ (T.setTop (mkF m 0 #[.val (.ref ao), .val (.int (2 : Int32))] []))
  refine OwnDone.go (A := (T.setTop (mkF m 1 #[.val (.ref ao), .val (.int (2 : Int32))] [(.ref ao)]))) (fun tQ kQ => ?_) ?_
  · refine XS.aloadN P.here hx rfl (hb hby dmr2_0) rfl rfl ?_
    show Steps p.tables e below (T.setTop (mkF m 1 #[.val (.ref ao), .val (.int (2 : Int32))] [(.ref ao)])) _
    exact kQ
  show OwnDone p e below _ (T.setTop (mkF m 1 #[.val (.ref ao), .val (.int (2 : Int32))] [(.ref ao)]))
  refine own_getF C P (host := "") (Or.inl (hw _ (List.mem_of_getElem? (i := 120) rfl))) Via.refl (Oa.2 2 _ _ _ _ rfl rfl) dmr2_1 (fun T1 P1 => ?_)
  show OwnDone p e below _ (T1.setTop (mkF m 4 #[.val (.ref ao), .val (.int (2 : Int32))] [(.int (2 : Int32))]))
  refine OwnDone.go (A := (T1.setTop (mkF m 7 #[.val (.ref ao), .val (.int (2 : Int32))] [(.ref ao), (.int (4 : Int32))]))) (fun tQ kQ => ?_) ?_
  · refine XS.iloadN P1.here hx rfl (hb hby dmr2_4) rfl ?_
    show Steps p.tables e below (T1.setTop (mkF m 5 #[.val (.ref ao), .val (.int (2 : Int32))] [(.int (2 : Int32)), (.int (2 : Int32))])) _
    refine XS.iadd P1.here hx rfl (hb hby dmr2_5) rfl ?_
    show Steps p.tables e below (T1.setTop (mkF m 6 #[.val (.ref ao), .val (.int (2 : Int32))] [(.int (4 : Int32))])) _
    refine XS.aloadN P1.here hx rfl (hb hby dmr2_6) rfl rfl ?_
    show Steps p.tables e below (T1.setTop (mkF m 7 #[.val (.ref ao), .val (.int (2 : Int32))] [(.ref ao), (.int (4 : Int32))])) _
    exact kQ
  show OwnDone p e below _ (T1.setTop (mkF m 7 #[.val (.ref ao), .val (.int (2 : Int32))] [(.ref ao), (.int (4 : Int32))]))
  refine own_getF C P1 (host := "") (Or.inl (hw _ (List.mem_of_getElem? (i := 23) rfl))) Via.refl (Oa.2 0 _ _ _ _ rfl rfl) dmr2_7 (fun T2 P2 => ?_)
  show OwnDone p e below _ (T2.setTop (mkF m 10 #[.val (.ref ao), .val (.int (2 : Int32))] [(.ref b), (.int (4 : Int32))]))
  refine OwnDone.go (A := (T2.setTop (mkF m 11 #[.val (.ref ao), .val (.int (2 : Int32))] [(.int (16 : Int32)), (.int (4 : Int32))]))) (fun tQ kQ => ?_) ?_
  · refine own_alen C P2 Ya dmr2_10 ?_
    show Steps p.tables e below (T2.setTop (mkF m 11 #[.val (.ref ao), .val (.int (2 : Int32))] [(.int (16 : Int32)), (.int (4 : Int32))])) _
    exact kQ
  show OwnDone p e below _ (T2.setTop (mkF m 11 #[.val (.ref ao), .val (.int (2 : Int32))] [(.int (16 : Int32)), (.int (4 : Int32))]))
  refine OwnDone.go (A := (T2.setTop (mkF m 41 #[.val (.ref ao), .val (.int (2 : Int32))] []))) (fun tQ kQ => XS.icmpYes P2.here hx rfl (pc0 := 11) (pc' := 41) rfl (hb hby dmr2_11) rfl (XT.ii_le_t (by decide)) (by decide) (by decide) kQ) ?_
  show OwnDone p e below _ (T2.setTop (mkF m 41 #[.val (.ref ao), .val (.int (2 : Int32))] []))
  refine own_retV C P2 dmr2_41 (by decide) (by decide) ⟨rfl, rfl⟩
theorem dad2_0 : decode prog_13_method_2_code 0 = .ok (.aload_n 0, 1) := by decide +kernel
theorem dad2_1 : decode prog_13_method_2_code 1 = .ok (.iconst 2, 1) := by decide +kernel
theorem dad2_2 : decode prog_13_method_2_code 2 = .ok (.invokevirtual 26, 3) := by decide +kernel
theorem dad2_5 : decode prog_13_method_2_code 5 = .ok (.aload_n 0, 1) := by decide +kernel
theorem dad2_6 : decode prog_13_method_2_code 6 = .ok (.getfield 7, 3) := by decide +kernel
theorem dad2_9 : decode prog_13_method_2_code 9 = .ok (.aload_n 0, 1) := by decide +kernel
theorem dad2_10 : decode prog_13_method_2_code 10 = .ok (.getfield 30, 3) := by decide +kernel
theorem dad2_13 : decode prog_13_method_2_code 13 = .ok (.iload_n 1, 1) := by decide +kernel
theorem dad2_14 : decode prog_13_method_2_code 14 = .ok (.iastore, 1) := by decide +kernel
theorem dad2_15 : decode prog_13_method_2_code 15 = .ok (.aload_n 0, 1) := by decide +kernel
theorem dad2_16 : decode prog_13_method_2_code 16 = .ok (.getfield 7, 3) := by decide +kernel
theorem dad2_19 : decode prog_13_method_2_code 19 = .ok (.aload_n 0, 1) := by decide +kernel
theorem dad2_20 : decode prog_13_method_2_code 20 = .ok (.getfield 30, 3) := by decide +kernel
theorem dad2_23 : decode prog_13_method_2_code 23 = .ok (.iconst 1, 1) := by decide +kernel
theorem dad2_24 : decode prog_13_method_2_code 24 = .ok (.iadd, 1) := by decide +kernel
theorem dad2_25 : decode prog_13_method_2_code 25 = .ok (.iload_n 2, 1) := by decide +kernel
theorem dad2_26 : decode prog_13_method_2_code 26 = .ok (.iastore, 1) := by decide +kernel
theorem dad2_27 : decode prog_13_method_2_code 27 = .ok (.aload_n 0, 1) := by decide +kernel
theorem dad2_28 : decode prog_13_method_2_code 28 = .ok (.dup, 1) := by decide +kernel
theorem dad2_29 : decode prog_13_method_2_code 29 = .ok (.getfield 30, 3) := by decide +kernel
theorem dad2_32 : decode prog_13_method_2_code 32 = .ok (.iconst 2, 1) := by decide +kernel
theorem dad2_33 : decode prog_13_method_2_code 33 = .ok (.iadd, 1) := by decide +kernel
theorem dad2_34 : decode prog_13_method_2_code 34 = .ok (.putfield 30, 3) := by decide +kernel
theorem dad2_37 : decode prog_13_method_2_code 37 = .ok (.return_, 1) := by decide +kernel
theorem pnad2 : plainName "com/example/bounded_array/boundedarray/regex/CodePointSet$Builder" = true := by first | (simp [plainName, overriddenIn]; done) | decide +kernel
theorem efad2 (m : MethodId) (ao : Addr) (u : Int32) (w : Int32)  : entryFrame m #[(.ref ao), (.int u), (.int w)] 3 = mkF m 0 #[.val (.ref ao), .val (.int u), .val (.int w)] [] := by first | (simp [entryFrame, mkF, argsToLocals, Value.category]; done) | rfl
set_option maxRecDepth 65536 in
set_option maxHeartbeats 40000000 in
theorem rmad2 (l : Launch) (Z : State) (a0 : Array Value) (hw : ∀ d ∈ tables_1, d.before a0 Z = true) (ao : Addr) (u : Int32) (w : Int32) (b sw : Addr) (k : ClassId) (x0 x1 : Int32) (h0 : Heap) (hE : Ext Z.heap h0) (g_ao : Z.heap.size ≤ ao) (g_b : Z.heap.size ≤ b) (Oa : OwnObj Z h0 ao "com/example/bounded_array/boundedarray/regex/CodePointSet$Builder" own_lay3 [(.ref b), (.ref sw), (.int (2 : Int32))]) (Ya : OwnAry Z h0 b k .int [(.int x0), (.int x1), (.int (0 : Int32)), (.int (0 : Int32)), (.int (0 : Int32)), (.int (0 : Int32)), (.int (0 : Int32)), (.int (0 : Int32)), (.int (0 : Int32)), (.int (0 : Int32)), (.int (0 : Int32)), (.int (0 : Int32)), (.int (0 : Int32)), (.int (0 : Int32)), (.int (0 : Int32)), (.int (0 : Int32))]) (nba : b ≠ ao) :
    OwnMeets l (⟨"com/example/bounded_array/boundedarray/regex/CodePointSet$Builder", "add", "(II)V"⟩ : MethodName) prog_13_method_2_code 3 none ({ frames := 1, cells := 0, slots := 0, locals := 13 } : Room) Z [ao, b] #[(.ref ao), (.int u), (.int w)] h0 (fun v h => v = none ∧ OwnObj Z h ao "com/example/bounded_array/boundedarray/regex/CodePointSet$Builder" own_lay3 [(.ref b), (.ref sw), (.int (4 : Int32))] ∧ OwnAry Z h b k .int [(.int x0), (.int x1), (.int u), (.int w), (.int (0 : Int32)), (.int (0 : Int32)), (.int (0 : Int32)), (.int (0 : Int32)), (.int (0 : Int32)), (.int (0 : Int32)), (.int (0 : Int32)), (.int (0 : Int32)), (.int (0 : Int32)), (.int (0 : Int32)), (.int (0 : Int32)), (.int (0 : Int32))]) := by
  refine OwnMeets.of (plainFor_of_name pnad2) hE (allS g_ao (allS g_b all0)) ?_
  intro p e s m below meth c T C P
  have hx := C.1
  have hby := C.2.2.2.2.1
  rw [show entryFrame m #[(.ref ao), (.int u), (.int w)] 3 = _ from efad2 m ao u w]
  show OwnDone p e below _ (T.setTop (mkF m 0 #[.val (.ref ao), .val (.int u), .val (.int w)] []))
  refine OwnDone.go (A := (T.setTop (mkF m 2 #[.val (.ref ao), .val (.int u), .val (.int w)] [(.int (2 : Int32)), (.ref ao)]))) (fun tQ kQ => ?_) ?_
  · refine XS.aloadN P.here hx rfl (hb hby dad2_0) rfl rfl ?_
    show Steps p.tables e below (T.setTop (mkF m 1 #[.val (.ref ao), .val (.int u), .val (.int w)] [(.ref ao)])) _
    refine XS.iconst P.here hx rfl (hb hby dad2_1) ?_
    show Steps p.tables e below (T.setTop (mkF m 2 #[.val (.ref ao), .val (.int u), .val (.int w)] [(.int (2 : Int32)), (.ref ao)])) _
    exact kQ
  show OwnDone p e below _ (T.setTop (mkF m 2 #[.val (.ref ao), .val (.int u), .val (.int w)] [(.int (2 : Int32)), (.ref ao)]))
  refine own_callP (y := (⟨"com/example/bounded_array/boundedarray/regex/CodePointSet$Builder", "makeRoom", "(I)V"⟩ : MethodName)) C P Oa.1 (hw _ (List.mem_of_getElem? (i := 116) rfl)) (hw _ (List.mem_of_getElem? (i := 117) rfl)) (hw _ (List.mem_of_getElem? (i := 14) rfl)) (hw _ (List.mem_of_getElem? (i := 118) rfl)) (hw _ (List.mem_of_getElem? (i := 15) rfl)) (hw _ (List.mem_of_getElem? (i := 119) rfl)) (by decide) (rmmr2 l Z a0 hw ao b sw k x0 x1 h0 P.old Oa Ya) (as := [(.int (2 : Int32))]) (rest := []) pd_1 rfl rfl (wd := 0) rfl rfl dad2_2 all0 (by decide) (by decide) (by decide) (by decide) (fun T1 h1 v1 P1 K1 hQ1 => ?_)
  obtain ⟨rfl, rfl⟩ := hQ1
  show OwnDone p e below _ (T1.setTop (mkF m 5 #[.val (.ref ao), .val (.int u), .val (.int w)] []))
  refine OwnDone.go (A := (T1.setTop (mkF m 6 #[.val (.ref ao), .val (.int u), .val (.int w)] [(.ref ao)]))) (fun tQ kQ => ?_) ?_
  · refine XS.aloadN P1.here hx rfl (hb hby dad2_5) rfl rfl ?_
    show Steps p.tables e below (T1.setTop (mkF m 6 #[.val (.ref ao), .val (.int u), .val (.int w)] [(.ref ao)])) _
    exact kQ
  show OwnDone p e below _ (T1.setTop (mkF m 6 #[.val (.ref ao), .val (.int u), .val (.int w)] [(.ref ao)]))
  refine own_getF C P1 (host := "") (Or.inl (hw _ (List.mem_of_getElem? (i := 23) rfl))) Via.refl (Oa.2 0 _ _ _ _ rfl rfl) dad2_6 (fun T2 P2 => ?_)
  show OwnDone p e below _ (T2.setTop (mkF m 9 #[.val (.ref ao), .val (.int u), .val (.int w)] [(.ref b)]))
  refine OwnDone.go (A := (T2.setTop (mkF m 10 #[.val (.ref ao), .val (.int u), .val (.int w)] [(.ref ao), (.ref b)]))) (fun tQ kQ => ?_) ?_
  · refine XS.aloadN P2.here hx rfl (hb hby dad2_9) rfl rfl ?_
    show Steps p.tables e below (T2.setTop (mkF m 10 #[.val (.ref ao), .val (.int u), .val (.int w)] [(.ref ao), (.ref b)])) _
    exact kQ
  show OwnDone p e below _ (T2.setTop (mkF m 10 #[.val (.ref ao), .val (.int u), .val (.int w)] [(.ref ao), (.ref b)]))
  refine own_getF C P2 (host := "") (Or.inl (hw _ (List.mem_of_getElem? (i := 120) rfl))) Via.refl (Oa.2 2 _ _ _ _ rfl rfl) dad2_10 (fun T3 P3 => ?_)
  show OwnDone p e below _ (T3.setTop (mkF m 13 #[.val (.ref ao), .val (.int u), .val (.int w)] [(.int (2 : Int32)), (.ref b)]))
  refine OwnDone.go (A := (T3.setTop (mkF m 14 #[.val (.ref ao), .val (.int u), .val (.int w)] [(.int u), (.int (2 : Int32)), (.ref b)]))) (fun tQ kQ => ?_) ?_
  · refine XS.iloadN P3.here hx rfl (hb hby dad2_13) rfl ?_
    show Steps p.tables e below (T3.setTop (mkF m 14 #[.val (.ref ao), .val (.int u), .val (.int w)] [(.int u), (.int (2 : Int32)), (.ref b)])) _
    exact kQ
  show OwnDone p e below _ (T3.setTop (mkF m 14 #[.val (.ref ao), .val (.int u), .val (.int w)] [(.int u), (.int (2 : Int32)), (.ref b)]))
  refine own_iastore C P3 Ya (by decide) (show ((2 : Int32) : Int32).toNatClampNeg < 16 from by decide) (Or.inl (List.mem_of_getElem? (i := 1) rfl)) dad2_14 (vs' := [(.int x0), (.int x1), (.int u), (.int (0 : Int32)), (.int (0 : Int32)), (.int (0 : Int32)), (.int (0 : Int32)), (.int (0 : Int32)), (.int (0 : Int32)), (.int (0 : Int32)), (.int (0 : Int32)), (.int (0 : Int32)), (.int (0 : Int32)), (.int (0 : Int32)), (.int (0 : Int32)), (.int (0 : Int32))]) rfl (fun T4 h4 P4 K4 Y4 => ?_)
  have O5_ao := Oa.keep K4 (ninS (Ne.symm nba) nin0)
  show OwnDone p e below _ (T4.setTop (mkF m 15 #[.val (.ref ao), .val (.int u), .val (.int w)] []))
  refine OwnDone.go (A := (T4.setTop (mkF m 16 #[.val (.ref ao), .val (.int u), .val (.int w)] [(.ref ao)]))) (fun tQ kQ => ?_) ?_
  · refine XS.aloadN P4.here hx rfl (hb hby dad2_15) rfl rfl ?_
    show Steps p.tables e below (T4.setTop (mkF m 16 #[.val (.ref ao), .val (.int u), .val (.int w)] [(.ref ao)])) _
    exact kQ
  show OwnDone p e below _ (T4.setTop (mkF m 16 #[.val (.ref ao), .val (.int u), .val (.int w)] [(.ref ao)]))
  refine own_getF C P4 (host := "") (Or.inl (hw _ (List.mem_of_getElem? (i := 23) rfl))) Via.refl (O5_ao.2 0 _ _ _ _ rfl rfl) dad2_16 (fun T6 P6 => ?_)
  show OwnDone p e below _ (T6.setTop (mkF m 19 #[.val (.ref ao), .val (.int u), .val (.int w)] [(.ref b)]))
  refine OwnDone.go (A := (T6.setTop (mkF m 20 #[.val (.ref ao), .val (.int u), .val (.int w)] [(.ref ao), (.ref b)]))) (fun tQ kQ => ?_) ?_
  · refine XS.aloadN P6.here hx rfl (hb hby dad2_19) rfl rfl ?_
    show Steps p.tables e below (T6.setTop (mkF m 20 #[.val (.ref ao), .val (.int u), .val (.int w)] [(.ref ao), (.ref b)])) _
    exact kQ
  show OwnDone p e below _ (T6.setTop (mkF m 20 #[.val (.ref ao), .val (.int u), .val (.int w)] [(.ref ao), (.ref b)]))
  refine own_getF C P6 (host := "") (Or.inl (hw _ (List.mem_of_getElem? (i := 120) rfl))) Via.refl (O5_ao.2 2 _ _ _ _ rfl rfl) dad2_20 (fun T7 P7 => ?_)
  show OwnDone p e below _ (T7.setTop (mkF m 23 #[.val (.ref ao), .val (.int u), .val (.int w)] [(.int (2 : Int32)), (.ref b)]))
  refine OwnDone.go (A := (T7.setTop (mkF m 26 #[.val (.ref ao), .val (.int u), .val (.int w)] [(.int w), (.int (3 : Int32)), (.ref b)]))) (fun tQ kQ => ?_) ?_
  · refine XS.iconst P7.here hx rfl (hb hby dad2_23) ?_
    show Steps p.tables e below (T7.setTop (mkF m 24 #[.val (.ref ao), .val (.int u), .val (.int w)] [(.int (1 : Int32)), (.int (2 : Int32)), (.ref b)])) _
    refine XS.iadd P7.here hx rfl (hb hby dad2_24) rfl ?_
    show Steps p.tables e below (T7.setTop (mkF m 25 #[.val (.ref ao), .val (.int u), .val (.int w)] [(.int (3 : Int32)), (.ref b)])) _
    refine XS.iloadN P7.here hx rfl (hb hby dad2_25) rfl ?_
    show Steps p.tables e below (T7.setTop (mkF m 26 #[.val (.ref ao), .val (.int u), .val (.int w)] [(.int w), (.int (3 : Int32)), (.ref b)])) _
    exact kQ
  show OwnDone p e below _ (T7.setTop (mkF m 26 #[.val (.ref ao), .val (.int u), .val (.int w)] [(.int w), (.int (3 : Int32)), (.ref b)]))
  refine own_iastore C P7 Y4 (by decide) (show ((3 : Int32) : Int32).toNatClampNeg < 16 from by decide) (Or.inl (List.mem_of_getElem? (i := 1) rfl)) dad2_26 (vs' := [(.int x0), (.int x1), (.int u), (.int w), (.int (0 : Int32)), (.int (0 : Int32)), (.int (0 : Int32)), (.int (0 : Int32)), (.int (0 : Int32)), (.int (0 : Int32)), (.int (0 : Int32)), (.int (0 : Int32)), (.int (0 : Int32)), (.int (0 : Int32)), (.int (0 : Int32)), (.int (0 : Int32))]) rfl (fun T8 h8 P8 K8 Y8 => ?_)
  have O9_ao := O5_ao.keep K8 (ninS (Ne.symm nba) nin0)
  show OwnDone p e below _ (T8.setTop (mkF m 27 #[.val (.ref ao), .val (.int u), .val (.int w)] []))
  refine OwnDone.go (A := (T8.setTop (mkF m 29 #[.val (.ref ao), .val (.int u), .val (.int w)] [(.ref ao), (.ref ao)]))) (fun tQ kQ => ?_) ?_
  · refine XS.aloadN P8.here hx rfl (hb hby dad2_27) rfl rfl ?_
    show Steps p.tables e below (T8.setTop (mkF m 28 #[.val (.ref ao), .val (.int u), .val (.int w)] [(.ref ao)])) _
    refine XS.dup P8.here hx rfl (hb hby dad2_28) rfl rfl ?_
    show Steps p.tables e below (T8.setTop (mkF m 29 #[.val (.ref ao), .val (.int u), .val (.int w)] [(.ref ao), (.ref ao)])) _
    exact kQ
  show OwnDone p e below _ (T8.setTop (mkF m 29 #[.val (.ref ao), .val (.int u), .val (.int w)] [(.ref ao), (.ref ao)]))
  refine own_getF C P8 (host := "") (Or.inl (hw _ (List.mem_of_getElem? (i := 120) rfl))) Via.refl (O9_ao.2 2 _ _ _ _ rfl rfl) dad2_29 (fun T10 P10 => ?_)
  show OwnDone p e below _ (T10.setTop (mkF m 32 #[.val (.ref ao), .val (.int u), .val (.int w)] [(.int (2 : Int32)), (.ref ao)]))
  refine OwnDone.go (A := (T10.setTop (mkF m 34 #[.val (.ref ao), .val (.int u), .val (.int w)] [(.int (4 : Int32)), (.ref ao)]))) (fun tQ kQ => ?_) ?_
  · refine XS.iconst P10.here hx rfl (hb hby dad2_32) ?_
    show Steps p.tables e below (T10.setTop (mkF m 33 #[.val (.ref ao), .val (.int u), .val (.int w)] [(.int (2 : Int32)), (.int (2 : Int32)), (.ref ao)])) _
    refine XS.iadd P10.here hx rfl (hb hby dad2_33) rfl ?_
    show Steps p.tables e below (T10.setTop (mkF m 34 #[.val (.ref ao), .val (.int u), .val (.int w)] [(.int (4 : Int32)), (.ref ao)])) _
    exact kQ
  show OwnDone p e below _ (T10.setTop (mkF m 34 #[.val (.ref ao), .val (.int u), .val (.int w)] [(.int (4 : Int32)), (.ref ao)]))
  refine own_putO (ty := .int) C P10 (hw _ (List.mem_of_getElem? (i := 120) rfl)) Via.refl O9_ao (own_laid3 hw) 2 rfl rfl (Or.inl (hw _ (List.mem_of_getElem? (i := 121) rfl))) (hw _ (List.mem_of_getElem? (i := 14) rfl)) (by decide) rfl rfl (Or.inl (List.mem_of_getElem? (i := 0) rfl)) dad2_34 (vs' := [(.ref b), (.ref sw), (.int (4 : Int32))]) rfl (fun T11 h11 P11 K11 O11 => ?_)
  have Y12_b := Y8.keep K11 (ninS nba nin0)
  show OwnDone p e below _ (T11.setTop (mkF m 37 #[.val (.ref ao), .val (.int u), .val (.int w)] []))
  refine own_retV C P11 dad2_37 (by decide) (by decide) ⟨rfl, O11, Y12_b⟩
def own_Srt (f1 l1 f2 l2 fa la fb lb : Int32) : Prop := ((f2 < f1 ∨ f2 = f1 ∧ l2 < l1) ∧ fa = f2 ∧ la = l2 ∧ fb = f1 ∧ lb = l1) ∨ (¬ (f2 < f1 ∨ f2 = f1 ∧ l2 < l1) ∧ fa = f1 ∧ la = l1 ∧ fb = f2 ∧ lb = l2)
def own_Nn (f1 l1 f2 l2 : Int32) : Prop := 0 ≤ f1.toInt ∧ 0 ≤ l1.toInt ∧ 0 ≤ f2.toInt ∧ 0 ≤ l2.toInt
theorem own_srtN {f1 l1 f2 l2 fa la fb lb : Int32} (hp : own_Nn f1 l1 f2 l2) (hs : own_Srt f1 l1 f2 l2 fa la fb lb) : own_Nn fa la fb lb := by
  obtain ⟨h1, h2, h3, h4⟩ := hp
  rcases hs with ⟨-, rfl, rfl, rfl, rfl⟩ | ⟨-, rfl, rfl, rfl, rfl⟩
  · exact ⟨h3, h4, h1, h2⟩
  · exact ⟨h1, h2, h3, h4⟩
theorem own_srt {f1 l1 f2 l2 fa la fb lb : Int32} {y0 y1 : Int64} (hp : own_Nn f1 l1 f2 l2) (hs : own_Srt f1 l1 f2 l2 fa la fb lb)
    (so : own_pk f2 l2 < own_pk f1 l1 ∧ y0 = own_pk f2 l2 ∧ y1 = own_pk f1 l1 ∨ ¬ own_pk f2 l2 < own_pk f1 l1 ∧ y0 = own_pk f1 l1 ∧ y1 = own_pk f2 l2) : y0 = own_pk fa la ∧ y1 = own_pk fb lb := by
  obtain ⟨h1, h2, h3, h4⟩ := hp
  rw [own_pk_lt h3 h4 h1 h2] at so
  rcases hs with ⟨q, rfl, rfl, rfl, rfl⟩ | ⟨q, rfl, rfl, rfl, rfl⟩
  · rcases so with ⟨-, r⟩ | ⟨n, -⟩
    · exact r
    · exact absurd q n
  · rcases so with ⟨n, -⟩ | ⟨-, r⟩
    · exact absurd n q
    · exact r
theorem own_fl {u v f b : Int32} (hu : 0 ≤ u.toInt ∧ u.toInt < 1114112) (hv : 0 ≤ v.toInt ∧ v.toInt < 1114112) (hf : v < u ∧ f = v ∨ ¬ v < u ∧ f = u) (hb : u < v ∧ b = v ∨ ¬ u < v ∧ b = u) : 0 ≤ f.toInt ∧ f.toInt ≤ b.toInt ∧ b.toInt < 1114112 := by
  simp only [Int32.lt_iff_toInt_lt] at hf hb
  rcases hf with ⟨q, rfl⟩ | ⟨q, rfl⟩ <;> rcases hb with ⟨q', rfl⟩ | ⟨q', rfl⟩ <;> omega
theorem own_cases {f1 l1 f2 l2 : Int32} (h1 : 0 ≤ f1.toInt ∧ f1.toInt ≤ l1.toInt ∧ l1.toInt < 1114112) (h2 : 0 ≤ f2.toInt ∧ f2.toInt ≤ l2.toInt ∧ l2.toInt < 1114112) :
    (own_Srt f1 l1 f2 l2 f1 l1 f2 l2 ∧ ¬ f2 < f1 ∧ ¬ l1 + 1 < f2) ∨ (own_Srt f1 l1 f2 l2 f1 l1 f2 l2 ∧ ¬ f2 < f1 ∧ l1 + 1 < f2) ∨
    (own_Srt f1 l1 f2 l2 f2 l2 f1 l1 ∧ f2 < f1 ∧ ¬ l2 + 1 < f1) ∨ (own_Srt f1 l1 f2 l2 f2 l2 f1 l1 ∧ f2 < f1 ∧ l2 + 1 < f1) ∨
    (own_Srt f1 l1 f2 l2 f2 l2 f1 l1 ∧ ¬ f2 < f1 ∧ ¬ l2 + 1 < f1 ∧ ¬ l1 + 1 < f2 ∧ f2 = f1) := by
  have e1 : (1 : Int32).toInt = 1 := by decide
  have a1 := c_iadd l1 1
  have a2 := c_iadd l2 1
  have r1 := rng32 (l1 + 1)
  have r2 := rng32 (l2 + 1)
  by_cases q : f2 < f1
  · have s : own_Srt f1 l1 f2 l2 f2 l2 f1 l1 := Or.inl ⟨Or.inl q, rfl, rfl, rfl, rfl⟩
    by_cases q2 : l2 + 1 < f1
    · exact Or.inr (Or.inr (Or.inr (Or.inl ⟨s, q, q2⟩)))
    · exact Or.inr (Or.inr (Or.inl ⟨s, q, q2⟩))
  · by_cases q3 : f2 = f1 ∧ l2 < l1
    · have s : own_Srt f1 l1 f2 l2 f2 l2 f1 l1 := Or.inl ⟨Or.inr q3, rfl, rfl, rfl, rfl⟩
      obtain ⟨q4, q5⟩ := q3
      subst q4
      refine Or.inr (Or.inr (Or.inr (Or.inr ⟨s, q, ?_, ?_, rfl⟩))) <;> rw [Int32.lt_iff_toInt_lt] <;> omega
    · have s : own_Srt f1 l1 f2 l2 f1 l1 f2 l2 := Or.inr ⟨fun z => z.elim q q3, rfl, rfl, rfl, rfl⟩
      by_cases q2 : l1 + 1 < f2
      · exact Or.inr (Or.inl ⟨s, q, q2⟩)
      · exact Or.inl ⟨s, q, q2⟩
theorem own_mxeq {a b r r' : Int32} (h : a < b ∧ r = b ∨ ¬ a < b ∧ r = a) (h' : a < b ∧ r' = b ∨ ¬ a < b ∧ r' = a) : r = r' := by
  rcases h with ⟨q, rfl⟩ | ⟨q, rfl⟩ <;> rcases h' with ⟨q', rfl⟩ | ⟨q', rfl⟩ <;> first | rfl | exact absurd q q' | exact absurd q' q
theorem own_mxeq' {a b r r' : Int32} (h : a < b ∧ r = b ∨ ¬ a < b ∧ r = a) (h' : b < a ∧ r' = a ∨ ¬ b < a ∧ r' = b) : r = r' := by
  simp only [Int32.lt_iff_toInt_lt] at h h'
  rcases h with ⟨q, rfl⟩ | ⟨q, rfl⟩ <;> rcases h' with ⟨q', rfl⟩ | ⟨q', rfl⟩ <;> first | rfl | exact Int32.toInt_inj.mp (by omega)
theorem own_cpA (x : Int32) : 0 ≤ (x &&& 15).toInt ∧ (x &&& 15).toInt < 1114112 := by
  have h := c_and x 15 (by decide)
  have e1 : (15 : Int32).toInt = 15 := by decide
  omega
theorem own_cpB (x : Int32) : 0 ≤ ((x &&& 2147483647) % 1114112).toInt ∧ ((x &&& 2147483647) % 1114112).toInt < 1114112 := by
  have h := c_and x 2147483647 (by decide)
  have h2 := (c_irem (x &&& 2147483647) 1114112 1114112 (by decide)).1 h.1
  omega
theorem dbn_0 : decode prog_13_method_5_code 0 = .ok (.aload_n 0, 1) := by decide +kernel
theorem dbn_1 : decode prog_13_method_5_code 1 = .ok (.getfield 30, 3) := by decide +kernel
theorem dbn_4 : decode prog_13_method_5_code 4 = .ok (.iconst 2, 1) := by decide +kernel
theorem dbn_5 : decode prog_13_method_5_code 5 = .ok (.idiv, 1) := by decide +kernel
theorem dbn_6 : decode prog_13_method_5_code 6 = .ok (.newarray .long, 2) := by decide +kernel
theorem dbn_8 : decode prog_13_method_5_code 8 = .ok (.astore_n 1, 1) := by decide +kernel
theorem dbn_9 : decode prog_13_method_5_code 9 = .ok (.iconst 0, 1) := by decide +kernel
theorem dbn_10 : decode prog_13_method_5_code 10 = .ok (.istore_n 2, 1) := by decide +kernel
theorem dbn_11 : decode prog_13_method_5_code 11 = .ok (.iload_n 2, 1) := by decide +kernel
theorem dbn_12 : decode prog_13_method_5_code 12 = .ok (.aload_n 1, 1) := by decide +kernel
theorem dbn_13 : decode prog_13_method_5_code 13 = .ok (.arraylength, 1) := by decide +kernel
theorem dbn_14 : decode prog_13_method_5_code 14 = .ok (.if_icmp .ge 36, 3) := by decide +kernel
theorem dbn_17 : decode prog_13_method_5_code 17 = .ok (.aload_n 1, 1) := by decide +kernel
theorem dbn_18 : decode prog_13_method_5_code 18 = .ok (.iload_n 2, 1) := by decide +kernel
theorem dbn_19 : decode prog_13_method_5_code 19 = .ok (.aload_n 0, 1) := by decide +kernel
theorem dbn_20 : decode prog_13_method_5_code 20 = .ok (.getfield 7, 3) := by decide +kernel
theorem dbn_23 : decode prog_13_method_5_code 23 = .ok (.iconst 2, 1) := by decide +kernel
theorem dbn_24 : decode prog_13_method_5_code 24 = .ok (.iload_n 2, 1) := by decide +kernel
theorem dbn_25 : decode prog_13_method_5_code 25 = .ok (.imul, 1) := by decide +kernel
theorem dbn_26 : decode prog_13_method_5_code 26 = .ok (.iaload, 1) := by decide +kernel
theorem dbn_27 : decode prog_13_method_5_code 27 = .ok (.i2l, 1) := by decide +kernel
theorem dbn_28 : decode prog_13_method_5_code 28 = .ok (.bipush 32, 2) := by decide +kernel
theorem dbn_30 : decode prog_13_method_5_code 30 = .ok (.lshl, 1) := by decide +kernel
theorem dbn_31 : decode prog_13_method_5_code 31 = .ok (.aload_n 0, 1) := by decide +kernel
theorem dbn_32 : decode prog_13_method_5_code 32 = .ok (.getfield 7, 3) := by decide +kernel
theorem dbn_35 : decode prog_13_method_5_code 35 = .ok (.iconst 2, 1) := by decide +kernel
theorem dbn_36 : decode prog_13_method_5_code 36 = .ok (.iload_n 2, 1) := by decide +kernel
theorem dbn_37 : decode prog_13_method_5_code 37 = .ok (.imul, 1) := by decide +kernel
theorem dbn_38 : decode prog_13_method_5_code 38 = .ok (.iconst 1, 1) := by decide +kernel
theorem dbn_39 : decode prog_13_method_5_code 39 = .ok (.iadd, 1) := by decide +kernel
theorem dbn_40 : decode prog_13_method_5_code 40 = .ok (.iaload, 1) := by decide +kernel
theorem dbn_41 : decode prog_13_method_5_code 41 = .ok (.i2l, 1) := by decide +kernel
theorem dbn_42 : decode prog_13_method_5_code 42 = .ok (.lor, 1) := by decide +kernel
theorem dbn_43 : decode prog_13_method_5_code 43 = .ok (.lastore, 1) := by decide +kernel
theorem dbn_44 : decode prog_13_method_5_code 44 = .ok (.iinc 2 1, 3) := by decide +kernel
theorem dbn_47 : decode prog_13_method_5_code 47 = .ok (.goto (-36), 3) := by decide +kernel
theorem dbn_50 : decode prog_13_method_5_code 50 = .ok (.aload_n 1, 1) := by decide +kernel
theorem dbn_51 : decode prog_13_method_5_code 51 = .ok (.invokestatic 61, 3) := by decide +kernel
theorem dbn_54 : decode prog_13_method_5_code 54 = .ok (.aload_n 0, 1) := by decide +kernel
theorem dbn_55 : decode prog_13_method_5_code 55 = .ok (.getfield 30, 3) := by decide +kernel
theorem dbn_58 : decode prog_13_method_5_code 58 = .ok (.newarray .int, 2) := by decide +kernel
theorem dbn_60 : decode prog_13_method_5_code 60 = .ok (.astore_n 2, 1) := by decide +kernel
theorem dbn_61 : decode prog_13_method_5_code 61 = .ok (.iconst 0, 1) := by decide +kernel
theorem dbn_62 : decode prog_13_method_5_code 62 = .ok (.istore_n 3, 1) := by decide +kernel
theorem dbn_63 : decode prog_13_method_5_code 63 = .ok (.aload_n 1, 1) := by decide +kernel
theorem dbn_64 : decode prog_13_method_5_code 64 = .ok (.astore 4, 2) := by decide +kernel
theorem dbn_66 : decode prog_13_method_5_code 66 = .ok (.aload 4, 2) := by decide +kernel
theorem dbn_68 : decode prog_13_method_5_code 68 = .ok (.arraylength, 1) := by decide +kernel
theorem dbn_69 : decode prog_13_method_5_code 69 = .ok (.istore 5, 2) := by decide +kernel
theorem dbn_71 : decode prog_13_method_5_code 71 = .ok (.iconst 0, 1) := by decide +kernel
theorem dbn_72 : decode prog_13_method_5_code 72 = .ok (.istore 6, 2) := by decide +kernel
theorem dbn_74 : decode prog_13_method_5_code 74 = .ok (.iload 6, 2) := by decide +kernel
theorem dbn_76 : decode prog_13_method_5_code 76 = .ok (.iload 5, 2) := by decide +kernel
theorem dbn_78 : decode prog_13_method_5_code 78 = .ok (.if_icmp .ge 78, 3) := by decide +kernel
theorem dbn_81 : decode prog_13_method_5_code 81 = .ok (.aload 4, 2) := by decide +kernel
theorem dbn_83 : decode prog_13_method_5_code 83 = .ok (.iload 6, 2) := by decide +kernel
theorem dbn_85 : decode prog_13_method_5_code 85 = .ok (.laload, 1) := by decide +kernel
theorem dbn_86 : decode prog_13_method_5_code 86 = .ok (.lstore 7, 2) := by decide +kernel
theorem dbn_88 : decode prog_13_method_5_code 88 = .ok (.lload 7, 2) := by decide +kernel
theorem dbn_90 : decode prog_13_method_5_code 90 = .ok (.bipush 32, 2) := by decide +kernel
theorem dbn_92 : decode prog_13_method_5_code 92 = .ok (.lushr, 1) := by decide +kernel
theorem dbn_93 : decode prog_13_method_5_code 93 = .ok (.l2i, 1) := by decide +kernel
theorem dbn_94 : decode prog_13_method_5_code 94 = .ok (.istore 9, 2) := by decide +kernel
theorem dbn_96 : decode prog_13_method_5_code 96 = .ok (.lload 7, 2) := by decide +kernel
theorem dbn_98 : decode prog_13_method_5_code 98 = .ok (.l2i, 1) := by decide +kernel
theorem dbn_99 : decode prog_13_method_5_code 99 = .ok (.istore 10, 2) := by decide +kernel
theorem dbn_101 : decode prog_13_method_5_code 101 = .ok (.iload_n 3, 1) := by decide +kernel
theorem dbn_102 : decode prog_13_method_5_code 102 = .ok (.ifCond .le 33, 3) := by decide +kernel
theorem dbn_105 : decode prog_13_method_5_code 105 = .ok (.iload 9, 2) := by decide +kernel
theorem dbn_107 : decode prog_13_method_5_code 107 = .ok (.aload_n 2, 1) := by decide +kernel
theorem dbn_108 : decode prog_13_method_5_code 108 = .ok (.iload_n 3, 1) := by decide +kernel
theorem dbn_109 : decode prog_13_method_5_code 109 = .ok (.iconst 1, 1) := by decide +kernel
theorem dbn_110 : decode prog_13_method_5_code 110 = .ok (.isub, 1) := by decide +kernel
theorem dbn_111 : decode prog_13_method_5_code 111 = .ok (.iaload, 1) := by decide +kernel
theorem dbn_112 : decode prog_13_method_5_code 112 = .ok (.iconst 1, 1) := by decide +kernel
theorem dbn_113 : decode prog_13_method_5_code 113 = .ok (.iadd, 1) := by decide +kernel
theorem dbn_114 : decode prog_13_method_5_code 114 = .ok (.if_icmp .gt 21, 3) := by decide +kernel
theorem dbn_135 : decode prog_13_method_5_code 135 = .ok (.aload_n 2, 1) := by decide +kernel
theorem dbn_136 : decode prog_13_method_5_code 136 = .ok (.iload_n 3, 1) := by decide +kernel
theorem dbn_137 : decode prog_13_method_5_code 137 = .ok (.iload 9, 2) := by decide +kernel
theorem dbn_139 : decode prog_13_method_5_code 139 = .ok (.iastore, 1) := by decide +kernel
theorem dbn_140 : decode prog_13_method_5_code 140 = .ok (.aload_n 2, 1) := by decide +kernel
theorem dbn_141 : decode prog_13_method_5_code 141 = .ok (.iload_n 3, 1) := by decide +kernel
theorem dbn_142 : decode prog_13_method_5_code 142 = .ok (.iconst 1, 1) := by decide +kernel
theorem dbn_143 : decode prog_13_method_5_code 143 = .ok (.iadd, 1) := by decide +kernel
theorem dbn_144 : decode prog_13_method_5_code 144 = .ok (.iload 10, 2) := by decide +kernel
theorem dbn_146 : decode prog_13_method_5_code 146 = .ok (.iastore, 1) := by decide +kernel
theorem dbn_147 : decode prog_13_method_5_code 147 = .ok (.iinc 3 2, 3) := by decide +kernel
theorem dbn_150 : decode prog_13_method_5_code 150 = .ok (.iinc 6 1, 3) := by decide +kernel
theorem dbn_153 : decode prog_13_method_5_code 153 = .ok (.goto (-79), 3) := by decide +kernel
theorem dbn_156 : decode prog_13_method_5_code 156 = .ok (.new 41, 3) := by decide +kernel
theorem dbn_159 : decode prog_13_method_5_code 159 = .ok (.dup, 1) := by decide +kernel
theorem dbn_160 : decode prog_13_method_5_code 160 = .ok (.aload_n 2, 1) := by decide +kernel
theorem dbn_161 : decode prog_13_method_5_code 161 = .ok (.iload_n 3, 1) := by decide +kernel
theorem dbn_162 : decode prog_13_method_5_code 162 = .ok (.invokestatic 55, 3) := by decide +kernel
theorem dbn_165 : decode prog_13_method_5_code 165 = .ok (.invokespecial 65, 3) := by decide +kernel
theorem dbn_168 : decode prog_13_method_5_code 168 = .ok (.areturn, 1) := by decide +kernel
theorem pnbn : plainName "com/example/bounded_array/boundedarray/regex/CodePointSet$Builder" = true := by first | (simp [plainName, overriddenIn]; done) | decide +kernel
theorem efbn (m : MethodId) (ao : Addr)  : entryFrame m #[(.ref ao)] 11 = mkF m 0 #[.val (.ref ao), .unset, .unset, .unset, .unset, .unset, .unset, .unset, .unset, .unset, .unset] [] := by first | (simp [entryFrame, mkF, argsToLocals, Value.category]; done) | rfl
set_option maxRecDepth 65536 in
set_option maxHeartbeats 40000000 in
theorem rmbn (l : Launch) (Z : State) (a0 : Array Value) (hw : ∀ d ∈ tables_1, d.before a0 Z = true) (ao : Addr) (b sw : Addr) (k : ClassId) (f1 l1 f2 l2 fa la fb lb : Int32) (h0 : Heap) (hE : Ext Z.heap h0)  (Oa : OwnObj Z h0 ao "com/example/bounded_array/boundedarray/regex/CodePointSet$Builder" own_lay3 [(.ref b), (.ref sw), (.int (4 : Int32))]) (Ya : OwnAry Z h0 b k .int [(.int f1), (.int l1), (.int f2), (.int l2), (.int (0 : Int32)), (.int (0 : Int32)), (.int (0 : Int32)), (.int (0 : Int32)), (.int (0 : Int32)), (.int (0 : Int32)), (.int (0 : Int32)), (.int (0 : Int32)), (.int (0 : Int32)), (.int (0 : Int32)), (.int (0 : Int32)), (.int (0 : Int32))]) (nba : b ≠ ao) (hp : own_Nn f1 l1 f2 l2) (hs : own_Srt f1 l1 f2 l2 fa la fb lb) (hm : la + (1 : Int32) < fb) :
    OwnMeets l (⟨"com/example/bounded_array/boundedarray/regex/CodePointSet$Builder", "build", "()Lcom/example/bounded_array/boundedarray/regex/CodePointSet;"⟩ : MethodName) prog_13_method_5_code 11 (some (.object "com/example/bounded_array/boundedarray/regex/CodePointSet")) ({ frames := 4, cells := 4, slots := 15, locals := 84 } : Room) Z [] #[(.ref ao)] h0 (fun v h => ∃ c ra k' hs lo hi , v = some (.ref c) ∧ OwnObj Z h c "com/example/bounded_array/boundedarray/regex/CodePointSet" own_lay4 [(.ref ra), (.int hs), (.long lo), (.long hi)] ∧ OwnAry Z h ra k' .int [(.int fa), (.int la), (.int fb), (.int lb)]) := by
  refine OwnMeets.of (plainFor_of_name pnbn) hE all0 ?_
  intro p e s m below meth c T C P
  have hx := C.1
  have hby := C.2.2.2.2.1
  rw [show entryFrame m #[(.ref ao)] 11 = _ from efbn m ao]
  have nn := own_srtN hp hs
  show OwnDone p e below _ (T.setTop (mkF m 0 #[.val (.ref ao), .unset, .unset, .unset, .unset, .unset, .unset, .unset, .unset, .unset, .unset] []))
  refine OwnDone.go (A := (T.setTop (mkF m 1 #[.val (.ref ao), .unset, .unset, .unset, .unset, .unset, .unset, .unset, .unset, .unset, .unset] [(.ref ao)]))) (fun tQ kQ => ?_) ?_
  · refine XS.aloadN P.here hx rfl (hb hby dbn_0) rfl rfl ?_
    show Steps p.tables e below (T.setTop (mkF m 1 #[.val (.ref ao), .unset, .unset, .unset, .unset, .unset, .unset, .unset, .unset, .unset, .unset] [(.ref ao)])) _
    exact kQ
  show OwnDone p e below _ (T.setTop (mkF m 1 #[.val (.ref ao), .unset, .unset, .unset, .unset, .unset, .unset, .unset, .unset, .unset, .unset] [(.ref ao)]))
  refine own_getF C P (host := "") (Or.inl (hw _ (List.mem_of_getElem? (i := 120) rfl))) Via.refl (Oa.2 2 _ _ _ _ rfl rfl) dbn_1 (fun T1 P1 => ?_)
  show OwnDone p e below _ (T1.setTop (mkF m 4 #[.val (.ref ao), .unset, .unset, .unset, .unset, .unset, .unset, .unset, .unset, .unset, .unset] [(.int (4 : Int32))]))
  refine OwnDone.go (A := (T1.setTop (mkF m 6 #[.val (.ref ao), .unset, .unset, .unset, .unset, .unset, .unset, .unset, .unset, .unset, .unset] [(.int (2 : Int32))]))) (fun tQ kQ => ?_) ?_
  · refine XS.iconst P1.here hx rfl (hb hby dbn_4) ?_
    show Steps p.tables e below (T1.setTop (mkF m 5 #[.val (.ref ao), .unset, .unset, .unset, .unset, .unset, .unset, .unset, .unset, .unset, .unset] [(.int (2 : Int32)), (.int (4 : Int32))])) _
    refine XS.idiv P1.here hx rfl (hb hby dbn_5) rfl (by decide) ?_
    show Steps p.tables e below (T1.setTop (mkF m 6 #[.val (.ref ao), .unset, .unset, .unset, .unset, .unset, .unset, .unset, .unset, .unset, .unset] [(.int (2 : Int32))])) _
    exact kQ
  show OwnDone p e below _ (T1.setTop (mkF m 6 #[.val (.ref ao), .unset, .unset, .unset, .unset, .unset, .unset, .unset, .unset, .unset, .unset] [(.int (2 : Int32))]))
  refine own_newP (aty := .long) (n := (2 : Int32)) (cap := 2) (vs := [(.long (0 : Int64)), (.long (0 : Int64))]) C P1 (hw _ (List.mem_of_getElem? (i := 127) rfl)) dbn_6 (by decide) (by decide) (by decide) (by decide +kernel) rfl (by decide) (by decide) (fun T2 h2 a2 k2 ga2 la2 P2 K2 Y2 N2 => ?_)
  have ge_a2 : h0.size ≤ a2 := by rw [ga2]; exact P1.keep.1
  have ne_ao_a2 : ao ≠ a2 := by rw [ga2]; exact Nat.ne_of_lt Oa.lt
  have ne_b_a2 : b ≠ a2 := by rw [ga2]; exact Nat.ne_of_lt Ya.lt
  have O3_ao := Oa.keep K2 nin0
  have Y4_b := Ya.keep K2 nin0
  have Y2 : OwnAry Z h2 a2 k2 .long [(.long (0 : Int64)), (.long (0 : Int64))] := Y2
  show OwnDone p e below _ (T2.setTop (mkF m 8 #[.val (.ref ao), .unset, .unset, .unset, .unset, .unset, .unset, .unset, .unset, .unset, .unset] [(.ref a2)]))
  refine OwnDone.go (A := (T2.setTop (mkF m 14 #[.val (.ref ao), .val (.ref a2), .val (.int (0 : Int32)), .unset, .unset, .unset, .unset, .unset, .unset, .unset, .unset] [(.int (2 : Int32)), (.int (0 : Int32))]))) (fun tQ kQ => ?_) ?_
  · refine XS.astoreN P2.here hx rfl (hb hby dbn_8) rfl rfl (l' := #[.val (.ref ao), .val (.ref a2), .unset, .unset, .unset, .unset, .unset, .unset, .unset, .unset, .unset]) rfl ?_
    show Steps p.tables e below (T2.setTop (mkF m 9 #[.val (.ref ao), .val (.ref a2), .unset, .unset, .unset, .unset, .unset, .unset, .unset, .unset, .unset] [])) _
    refine XS.iconst P2.here hx rfl (hb hby dbn_9) ?_
    show Steps p.tables e below (T2.setTop (mkF m 10 #[.val (.ref ao), .val (.ref a2), .unset, .unset, .unset, .unset, .unset, .unset, .unset, .unset, .unset] [(.int (0 : Int32))])) _
    refine XS.istoreN P2.here hx rfl (hb hby dbn_10) rfl (l' := #[.val (.ref ao), .val (.ref a2), .val (.int (0 : Int32)), .unset, .unset, .unset, .unset, .unset, .unset, .unset, .unset]) rfl ?_
    show Steps p.tables e below (T2.setTop (mkF m 11 #[.val (.ref ao), .val (.ref a2), .val (.int (0 : Int32)), .unset, .unset, .unset, .unset, .unset, .unset, .unset, .unset] [])) _
    refine XS.iloadN P2.here hx rfl (hb hby dbn_11) rfl ?_
    show Steps p.tables e below (T2.setTop (mkF m 12 #[.val (.ref ao), .val (.ref a2), .val (.int (0 : Int32)), .unset, .unset, .unset, .unset, .unset, .unset, .unset, .unset] [(.int (0 : Int32))])) _
    refine XS.aloadN P2.here hx rfl (hb hby dbn_12) rfl rfl ?_
    show Steps p.tables e below (T2.setTop (mkF m 13 #[.val (.ref ao), .val (.ref a2), .val (.int (0 : Int32)), .unset, .unset, .unset, .unset, .unset, .unset, .unset, .unset] [(.ref a2), (.int (0 : Int32))])) _
    refine own_alen C P2 Y2 dbn_13 ?_
    show Steps p.tables e below (T2.setTop (mkF m 14 #[.val (.ref ao), .val (.ref a2), .val (.int (0 : Int32)), .unset, .unset, .unset, .unset, .unset, .unset, .unset, .unset] [(.int (2 : Int32)), (.int (0 : Int32))])) _
    exact kQ
  show OwnDone p e below _ (T2.setTop (mkF m 14 #[.val (.ref ao), .val (.ref a2), .val (.int (0 : Int32)), .unset, .unset, .unset, .unset, .unset, .unset, .unset, .unset] [(.int (2 : Int32)), (.int (0 : Int32))]))
  refine OwnDone.go (A := (T2.setTop (mkF m 17 #[.val (.ref ao), .val (.ref a2), .val (.int (0 : Int32)), .unset, .unset, .unset, .unset, .unset, .unset, .unset, .unset] []))) (fun tQ kQ => XS.icmpNo P2.here hx rfl (hb hby dbn_14) rfl (XT.ii_ge_f (by decide)) kQ) ?_
  show OwnDone p e below _ (T2.setTop (mkF m 17 #[.val (.ref ao), .val (.ref a2), .val (.int (0 : Int32)), .unset, .unset, .unset, .unset, .unset, .unset, .unset, .unset] []))
  refine OwnDone.go (A := (T2.setTop (mkF m 20 #[.val (.ref ao), .val (.ref a2), .val (.int (0 : Int32)), .unset, .unset, .unset, .unset, .unset, .unset, .unset, .unset] [(.ref ao), (.int (0 : Int32)), (.ref a2)]))) (fun tQ kQ => ?_) ?_
  · refine XS.aloadN P2.here hx rfl (hb hby dbn_17) rfl rfl ?_
    show Steps p.tables e below (T2.setTop (mkF m 18 #[.val (.ref ao), .val (.ref a2), .val (.int (0 : Int32)), .unset, .unset, .unset, .unset, .unset, .unset, .unset, .unset] [(.ref a2)])) _
    refine XS.iloadN P2.here hx rfl (hb hby dbn_18) rfl ?_
    show Steps p.tables e below (T2.setTop (mkF m 19 #[.val (.ref ao), .val (.ref a2), .val (.int (0 : Int32)), .unset, .unset, .unset, .unset, .unset, .unset, .unset, .unset] [(.int (0 : Int32)), (.ref a2)])) _
    refine XS.aloadN P2.here hx rfl (hb hby dbn_19) rfl rfl ?_
    show Steps p.tables e below (T2.setTop (mkF m 20 #[.val (.ref ao), .val (.ref a2), .val (.int (0 : Int32)), .unset, .unset, .unset, .unset, .unset, .unset, .unset, .unset] [(.ref ao), (.int (0 : Int32)), (.ref a2)])) _
    exact kQ
  show OwnDone p e below _ (T2.setTop (mkF m 20 #[.val (.ref ao), .val (.ref a2), .val (.int (0 : Int32)), .unset, .unset, .unset, .unset, .unset, .unset, .unset, .unset] [(.ref ao), (.int (0 : Int32)), (.ref a2)]))
  refine own_getF C P2 (host := "") (Or.inl (hw _ (List.mem_of_getElem? (i := 23) rfl))) Via.refl (O3_ao.2 0 _ _ _ _ rfl rfl) dbn_20 (fun T5 P5 => ?_)
  show OwnDone p e below _ (T5.setTop (mkF m 23 #[.val (.ref ao), .val (.ref a2), .val (.int (0 : Int32)), .unset, .unset, .unset, .unset, .unset, .unset, .unset, .unset] [(.ref b), (.int (0 : Int32)), (.ref a2)]))
  refine OwnDone.go (A := (T5.setTop (mkF m 32 #[.val (.ref ao), .val (.ref a2), .val (.int (0 : Int32)), .unset, .unset, .unset, .unset, .unset, .unset, .unset, .unset] [(.ref ao), (.long ((f1.toInt64) <<< (((32 : Int32)).toInt64 &&& 63))), (.int (0 : Int32)), (.ref a2)]))) (fun tQ kQ => ?_) ?_
  · refine XS.iconst P5.here hx rfl (hb hby dbn_23) ?_
    show Steps p.tables e below (T5.setTop (mkF m 24 #[.val (.ref ao), .val (.ref a2), .val (.int (0 : Int32)), .unset, .unset, .unset, .unset, .unset, .unset, .unset, .unset] [(.int (2 : Int32)), (.ref b), (.int (0 : Int32)), (.ref a2)])) _
    refine XS.iloadN P5.here hx rfl (hb hby dbn_24) rfl ?_
    show Steps p.tables e below (T5.setTop (mkF m 25 #[.val (.ref ao), .val (.ref a2), .val (.int (0 : Int32)), .unset, .unset, .unset, .unset, .unset, .unset, .unset, .unset] [(.int (0 : Int32)), (.int (2 : Int32)), (.ref b), (.int (0 : Int32)), (.ref a2)])) _
    refine XS.imul P5.here hx rfl (hb hby dbn_25) rfl ?_
    show Steps p.tables e below (T5.setTop (mkF m 26 #[.val (.ref ao), .val (.ref a2), .val (.int (0 : Int32)), .unset, .unset, .unset, .unset, .unset, .unset, .unset, .unset] [(.int (0 : Int32)), (.ref b), (.int (0 : Int32)), (.ref a2)])) _
    refine own_iaload C P5 Y4_b (by decide) rfl dbn_26 ?_
    show Steps p.tables e below (T5.setTop (mkF m 27 #[.val (.ref ao), .val (.ref a2), .val (.int (0 : Int32)), .unset, .unset, .unset, .unset, .unset, .unset, .unset, .unset] [(.int f1), (.int (0 : Int32)), (.ref a2)])) _
    refine XT.i2l P5.here hx rfl (hb hby dbn_27) rfl ?_
    show Steps p.tables e below (T5.setTop (mkF m 28 #[.val (.ref ao), .val (.ref a2), .val (.int (0 : Int32)), .unset, .unset, .unset, .unset, .unset, .unset, .unset, .unset] [(.long (f1.toInt64)), (.int (0 : Int32)), (.ref a2)])) _
    refine XS.bipush P5.here hx rfl (hb hby dbn_28) ?_
    show Steps p.tables e below (T5.setTop (mkF m 30 #[.val (.ref ao), .val (.ref a2), .val (.int (0 : Int32)), .unset, .unset, .unset, .unset, .unset, .unset, .unset, .unset] [(.int (32 : Int32)), (.long (f1.toInt64)), (.int (0 : Int32)), (.ref a2)])) _
    refine XT.lshl P5.here hx rfl (hb hby dbn_30) rfl ?_
    show Steps p.tables e below (T5.setTop (mkF m 31 #[.val (.ref ao), .val (.ref a2), .val (.int (0 : Int32)), .unset, .unset, .unset, .unset, .unset, .unset, .unset, .unset] [(.long ((f1.toInt64) <<< (((32 : Int32)).toInt64 &&& 63))), (.int (0 : Int32)), (.ref a2)])) _
    refine XS.aloadN P5.here hx rfl (hb hby dbn_31) rfl rfl ?_
    show Steps p.tables e below (T5.setTop (mkF m 32 #[.val (.ref ao), .val (.ref a2), .val (.int (0 : Int32)), .unset, .unset, .unset, .unset, .unset, .unset, .unset, .unset] [(.ref ao), (.long ((f1.toInt64) <<< (((32 : Int32)).toInt64 &&& 63))), (.int (0 : Int32)), (.ref a2)])) _
    exact kQ
  show OwnDone p e below _ (T5.setTop (mkF m 32 #[.val (.ref ao), .val (.ref a2), .val (.int (0 : Int32)), .unset, .unset, .unset, .unset, .unset, .unset, .unset, .unset] [(.ref ao), (.long ((f1.toInt64) <<< (((32 : Int32)).toInt64 &&& 63))), (.int (0 : Int32)), (.ref a2)]))
  refine own_getF C P5 (host := "") (Or.inl (hw _ (List.mem_of_getElem? (i := 23) rfl))) Via.refl (O3_ao.2 0 _ _ _ _ rfl rfl) dbn_32 (fun T6 P6 => ?_)
  show OwnDone p e below _ (T6.setTop (mkF m 35 #[.val (.ref ao), .val (.ref a2), .val (.int (0 : Int32)), .unset, .unset, .unset, .unset, .unset, .unset, .unset, .unset] [(.ref b), (.long ((f1.toInt64) <<< (((32 : Int32)).toInt64 &&& 63))), (.int (0 : Int32)), (.ref a2)]))
  refine OwnDone.go (A := (T6.setTop (mkF m 43 #[.val (.ref ao), .val (.ref a2), .val (.int (0 : Int32)), .unset, .unset, .unset, .unset, .unset, .unset, .unset, .unset] [(.long (((f1.toInt64) <<< (((32 : Int32)).toInt64 &&& 63)) ||| (l1.toInt64))), (.int (0 : Int32)), (.ref a2)]))) (fun tQ kQ => ?_) ?_
  · refine XS.iconst P6.here hx rfl (hb hby dbn_35) ?_
    show Steps p.tables e below (T6.setTop (mkF m 36 #[.val (.ref ao), .val (.ref a2), .val (.int (0 : Int32)), .unset, .unset, .unset, .unset, .unset, .unset, .unset, .unset] [(.int (2 : Int32)), (.ref b), (.long ((f1.toInt64) <<< (((32 : Int32)).toInt64 &&& 63))), (.int (0 : Int32)), (.ref a2)])) _
    refine XS.iloadN P6.here hx rfl (hb hby dbn_36) rfl ?_
    show Steps p.tables e below (T6.setTop (mkF m 37 #[.val (.ref ao), .val (.ref a2), .val (.int (0 : Int32)), .unset, .unset, .unset, .unset, .unset, .unset, .unset, .unset] [(.int (0 : Int32)), (.int (2 : Int32)), (.ref b), (.long ((f1.toInt64) <<< (((32 : Int32)).toInt64 &&& 63))), (.int (0 : Int32)), (.ref a2)])) _
    refine XS.imul P6.here hx rfl (hb hby dbn_37) rfl ?_
    show Steps p.tables e below (T6.setTop (mkF m 38 #[.val (.ref ao), .val (.ref a2), .val (.int (0 : Int32)), .unset, .unset, .unset, .unset, .unset, .unset, .unset, .unset] [(.int (0 : Int32)), (.ref b), (.long ((f1.toInt64) <<< (((32 : Int32)).toInt64 &&& 63))), (.int (0 : Int32)), (.ref a2)])) _
    refine XS.iconst P6.here hx rfl (hb hby dbn_38) ?_
    show Steps p.tables e below (T6.setTop (mkF m 39 #[.val (.ref ao), .val (.ref a2), .val (.int (0 : Int32)), .unset, .unset, .unset, .unset, .unset, .unset, .unset, .unset] [(.int (1 : Int32)), (.int (0 : Int32)), (.ref b), (.long ((f1.toInt64) <<< (((32 : Int32)).toInt64 &&& 63))), (.int (0 : Int32)), (.ref a2)])) _
    refine XS.iadd P6.here hx rfl (hb hby dbn_39) rfl ?_
    show Steps p.tables e below (T6.setTop (mkF m 40 #[.val (.ref ao), .val (.ref a2), .val (.int (0 : Int32)), .unset, .unset, .unset, .unset, .unset, .unset, .unset, .unset] [(.int (1 : Int32)), (.ref b), (.long ((f1.toInt64) <<< (((32 : Int32)).toInt64 &&& 63))), (.int (0 : Int32)), (.ref a2)])) _
    refine own_iaload C P6 Y4_b (by decide) rfl dbn_40 ?_
    show Steps p.tables e below (T6.setTop (mkF m 41 #[.val (.ref ao), .val (.ref a2), .val (.int (0 : Int32)), .unset, .unset, .unset, .unset, .unset, .unset, .unset, .unset] [(.int l1), (.long ((f1.toInt64) <<< (((32 : Int32)).toInt64 &&& 63))), (.int (0 : Int32)), (.ref a2)])) _
    refine XT.i2l P6.here hx rfl (hb hby dbn_41) rfl ?_
    show Steps p.tables e below (T6.setTop (mkF m 42 #[.val (.ref ao), .val (.ref a2), .val (.int (0 : Int32)), .unset, .unset, .unset, .unset, .unset, .unset, .unset, .unset] [(.long (l1.toInt64)), (.long ((f1.toInt64) <<< (((32 : Int32)).toInt64 &&& 63))), (.int (0 : Int32)), (.ref a2)])) _
    refine XT.lor P6.here hx rfl (hb hby dbn_42) rfl ?_
    show Steps p.tables e below (T6.setTop (mkF m 43 #[.val (.ref ao), .val (.ref a2), .val (.int (0 : Int32)), .unset, .unset, .unset, .unset, .unset, .unset, .unset, .unset] [(.long (((f1.toInt64) <<< (((32 : Int32)).toInt64 &&& 63)) ||| (l1.toInt64))), (.int (0 : Int32)), (.ref a2)])) _
    exact kQ
  show OwnDone p e below _ (T6.setTop (mkF m 43 #[.val (.ref ao), .val (.ref a2), .val (.int (0 : Int32)), .unset, .unset, .unset, .unset, .unset, .unset, .unset, .unset] [(.long (((f1.toInt64) <<< (((32 : Int32)).toInt64 &&& 63)) ||| (l1.toInt64))), (.int (0 : Int32)), (.ref a2)]))
  show OwnDone p e below _ (T6.setTop (mkF m 43 #[.val (.ref ao), .val (.ref a2), .val (.int (0 : Int32)), .unset, .unset, .unset, .unset, .unset, .unset, .unset, .unset] [(.long (own_pk f1 l1)), (.int (0 : Int32)), (.ref a2)]))
  refine own_lastore C P6 Y2 (by decide) (show ((0 : Int32) : Int32).toNatClampNeg < 2 from by decide) (Or.inr ge_a2) dbn_43 (vs' := [(.long (own_pk f1 l1)), (.long (0 : Int64))]) rfl (fun T7 h7 P7 K7 Y7 => ?_)
  have O8_ao := O3_ao.keep K7 (ninS ne_ao_a2 nin0)
  have Y9_b := Y4_b.keep K7 (ninS ne_b_a2 nin0)
  show OwnDone p e below _ (T7.setTop (mkF m 44 #[.val (.ref ao), .val (.ref a2), .val (.int (0 : Int32)), .unset, .unset, .unset, .unset, .unset, .unset, .unset, .unset] []))
  refine OwnDone.go (A := (T7.setTop (mkF m 14 #[.val (.ref ao), .val (.ref a2), .val (.int (1 : Int32)), .unset, .unset, .unset, .unset, .unset, .unset, .unset, .unset] [(.int (2 : Int32)), (.int (1 : Int32))]))) (fun tQ kQ => ?_) ?_
  · refine XS.iinc P7.here hx rfl (hb hby dbn_44) rfl (l' := #[.val (.ref ao), .val (.ref a2), .val (.int (1 : Int32)), .unset, .unset, .unset, .unset, .unset, .unset, .unset, .unset]) rfl ?_
    show Steps p.tables e below (T7.setTop (mkF m 47 #[.val (.ref ao), .val (.ref a2), .val (.int (1 : Int32)), .unset, .unset, .unset, .unset, .unset, .unset, .unset, .unset] [])) _
    refine XS.goto P7.here hx rfl (pc0 := 47) (pc' := 11) rfl (hb hby dbn_47) (by decide) (by decide) ?_
    show Steps p.tables e below (T7.setTop (mkF m 11 #[.val (.ref ao), .val (.ref a2), .val (.int (1 : Int32)), .unset, .unset, .unset, .unset, .unset, .unset, .unset, .unset] [])) _
    refine XS.iloadN P7.here hx rfl (hb hby dbn_11) rfl ?_
    show Steps p.tables e below (T7.setTop (mkF m 12 #[.val (.ref ao), .val (.ref a2), .val (.int (1 : Int32)), .unset, .unset, .unset, .unset, .unset, .unset, .unset, .unset] [(.int (1 : Int32))])) _
    refine XS.aloadN P7.here hx rfl (hb hby dbn_12) rfl rfl ?_
    show Steps p.tables e below (T7.setTop (mkF m 13 #[.val (.ref ao), .val (.ref a2), .val (.int (1 : Int32)), .unset, .unset, .unset, .unset, .unset, .unset, .unset, .unset] [(.ref a2), (.int (1 : Int32))])) _
    refine own_alen C P7 Y7 dbn_13 ?_
    show Steps p.tables e below (T7.setTop (mkF m 14 #[.val (.ref ao), .val (.ref a2), .val (.int (1 : Int32)), .unset, .unset, .unset, .unset, .unset, .unset, .unset, .unset] [(.int (2 : Int32)), (.int (1 : Int32))])) _
    exact kQ
  show OwnDone p e below _ (T7.setTop (mkF m 14 #[.val (.ref ao), .val (.ref a2), .val (.int (1 : Int32)), .unset, .unset, .unset, .unset, .unset, .unset, .unset, .unset] [(.int (2 : Int32)), (.int (1 : Int32))]))
  refine OwnDone.go (A := (T7.setTop (mkF m 17 #[.val (.ref ao), .val (.ref a2), .val (.int (1 : Int32)), .unset, .unset, .unset, .unset, .unset, .unset, .unset, .unset] []))) (fun tQ kQ => XS.icmpNo P7.here hx rfl (hb hby dbn_14) rfl (XT.ii_ge_f (by decide)) kQ) ?_
  show OwnDone p e below _ (T7.setTop (mkF m 17 #[.val (.ref ao), .val (.ref a2), .val (.int (1 : Int32)), .unset, .unset, .unset, .unset, .unset, .unset, .unset, .unset] []))
  refine OwnDone.go (A := (T7.setTop (mkF m 20 #[.val (.ref ao), .val (.ref a2), .val (.int (1 : Int32)), .unset, .unset, .unset, .unset, .unset, .unset, .unset, .unset] [(.ref ao), (.int (1 : Int32)), (.ref a2)]))) (fun tQ kQ => ?_) ?_
  · refine XS.aloadN P7.here hx rfl (hb hby dbn_17) rfl rfl ?_
    show Steps p.tables e below (T7.setTop (mkF m 18 #[.val (.ref ao), .val (.ref a2), .val (.int (1 : Int32)), .unset, .unset, .unset, .unset, .unset, .unset, .unset, .unset] [(.ref a2)])) _
    refine XS.iloadN P7.here hx rfl (hb hby dbn_18) rfl ?_
    show Steps p.tables e below (T7.setTop (mkF m 19 #[.val (.ref ao), .val (.ref a2), .val (.int (1 : Int32)), .unset, .unset, .unset, .unset, .unset, .unset, .unset, .unset] [(.int (1 : Int32)), (.ref a2)])) _
    refine XS.aloadN P7.here hx rfl (hb hby dbn_19) rfl rfl ?_
    show Steps p.tables e below (T7.setTop (mkF m 20 #[.val (.ref ao), .val (.ref a2), .val (.int (1 : Int32)), .unset, .unset, .unset, .unset, .unset, .unset, .unset, .unset] [(.ref ao), (.int (1 : Int32)), (.ref a2)])) _
    exact kQ
  show OwnDone p e below _ (T7.setTop (mkF m 20 #[.val (.ref ao), .val (.ref a2), .val (.int (1 : Int32)), .unset, .unset, .unset, .unset, .unset, .unset, .unset, .unset] [(.ref ao), (.int (1 : Int32)), (.ref a2)]))
  refine own_getF C P7 (host := "") (Or.inl (hw _ (List.mem_of_getElem? (i := 23) rfl))) Via.refl (O8_ao.2 0 _ _ _ _ rfl rfl) dbn_20 (fun T10 P10 => ?_)
  show OwnDone p e below _ (T10.setTop (mkF m 23 #[.val (.ref ao), .val (.ref a2), .val (.int (1 : Int32)), .unset, .unset, .unset, .unset, .unset, .unset, .unset, .unset] [(.ref b), (.int (1 : Int32)), (.ref a2)]))
  refine OwnDone.go (A := (T10.setTop (mkF m 32 #[.val (.ref ao), .val (.ref a2), .val (.int (1 : Int32)), .unset, .unset, .unset, .unset, .unset, .unset, .unset, .unset] [(.ref ao), (.long ((f2.toInt64) <<< (((32 : Int32)).toInt64 &&& 63))), (.int (1 : Int32)), (.ref a2)]))) (fun tQ kQ => ?_) ?_
  · refine XS.iconst P10.here hx rfl (hb hby dbn_23) ?_
    show Steps p.tables e below (T10.setTop (mkF m 24 #[.val (.ref ao), .val (.ref a2), .val (.int (1 : Int32)), .unset, .unset, .unset, .unset, .unset, .unset, .unset, .unset] [(.int (2 : Int32)), (.ref b), (.int (1 : Int32)), (.ref a2)])) _
    refine XS.iloadN P10.here hx rfl (hb hby dbn_24) rfl ?_
    show Steps p.tables e below (T10.setTop (mkF m 25 #[.val (.ref ao), .val (.ref a2), .val (.int (1 : Int32)), .unset, .unset, .unset, .unset, .unset, .unset, .unset, .unset] [(.int (1 : Int32)), (.int (2 : Int32)), (.ref b), (.int (1 : Int32)), (.ref a2)])) _
    refine XS.imul P10.here hx rfl (hb hby dbn_25) rfl ?_
    show Steps p.tables e below (T10.setTop (mkF m 26 #[.val (.ref ao), .val (.ref a2), .val (.int (1 : Int32)), .unset, .unset, .unset, .unset, .unset, .unset, .unset, .unset] [(.int (2 : Int32)), (.ref b), (.int (1 : Int32)), (.ref a2)])) _
    refine own_iaload C P10 Y9_b (by decide) rfl dbn_26 ?_
    show Steps p.tables e below (T10.setTop (mkF m 27 #[.val (.ref ao), .val (.ref a2), .val (.int (1 : Int32)), .unset, .unset, .unset, .unset, .unset, .unset, .unset, .unset] [(.int f2), (.int (1 : Int32)), (.ref a2)])) _
    refine XT.i2l P10.here hx rfl (hb hby dbn_27) rfl ?_
    show Steps p.tables e below (T10.setTop (mkF m 28 #[.val (.ref ao), .val (.ref a2), .val (.int (1 : Int32)), .unset, .unset, .unset, .unset, .unset, .unset, .unset, .unset] [(.long (f2.toInt64)), (.int (1 : Int32)), (.ref a2)])) _
    refine XS.bipush P10.here hx rfl (hb hby dbn_28) ?_
    show Steps p.tables e below (T10.setTop (mkF m 30 #[.val (.ref ao), .val (.ref a2), .val (.int (1 : Int32)), .unset, .unset, .unset, .unset, .unset, .unset, .unset, .unset] [(.int (32 : Int32)), (.long (f2.toInt64)), (.int (1 : Int32)), (.ref a2)])) _
    refine XT.lshl P10.here hx rfl (hb hby dbn_30) rfl ?_
    show Steps p.tables e below (T10.setTop (mkF m 31 #[.val (.ref ao), .val (.ref a2), .val (.int (1 : Int32)), .unset, .unset, .unset, .unset, .unset, .unset, .unset, .unset] [(.long ((f2.toInt64) <<< (((32 : Int32)).toInt64 &&& 63))), (.int (1 : Int32)), (.ref a2)])) _
    refine XS.aloadN P10.here hx rfl (hb hby dbn_31) rfl rfl ?_
    show Steps p.tables e below (T10.setTop (mkF m 32 #[.val (.ref ao), .val (.ref a2), .val (.int (1 : Int32)), .unset, .unset, .unset, .unset, .unset, .unset, .unset, .unset] [(.ref ao), (.long ((f2.toInt64) <<< (((32 : Int32)).toInt64 &&& 63))), (.int (1 : Int32)), (.ref a2)])) _
    exact kQ
  show OwnDone p e below _ (T10.setTop (mkF m 32 #[.val (.ref ao), .val (.ref a2), .val (.int (1 : Int32)), .unset, .unset, .unset, .unset, .unset, .unset, .unset, .unset] [(.ref ao), (.long ((f2.toInt64) <<< (((32 : Int32)).toInt64 &&& 63))), (.int (1 : Int32)), (.ref a2)]))
  refine own_getF C P10 (host := "") (Or.inl (hw _ (List.mem_of_getElem? (i := 23) rfl))) Via.refl (O8_ao.2 0 _ _ _ _ rfl rfl) dbn_32 (fun T11 P11 => ?_)
  show OwnDone p e below _ (T11.setTop (mkF m 35 #[.val (.ref ao), .val (.ref a2), .val (.int (1 : Int32)), .unset, .unset, .unset, .unset, .unset, .unset, .unset, .unset] [(.ref b), (.long ((f2.toInt64) <<< (((32 : Int32)).toInt64 &&& 63))), (.int (1 : Int32)), (.ref a2)]))
  refine OwnDone.go (A := (T11.setTop (mkF m 43 #[.val (.ref ao), .val (.ref a2), .val (.int (1 : Int32)), .unset, .unset, .unset, .unset, .unset, .unset, .unset, .unset] [(.long (((f2.toInt64) <<< (((32 : Int32)).toInt64 &&& 63)) ||| (l2.toInt64))), (.int (1 : Int32)), (.ref a2)]))) (fun tQ kQ => ?_) ?_
  · refine XS.iconst P11.here hx rfl (hb hby dbn_35) ?_
    show Steps p.tables e below (T11.setTop (mkF m 36 #[.val (.ref ao), .val (.ref a2), .val (.int (1 : Int32)), .unset, .unset, .unset, .unset, .unset, .unset, .unset, .unset] [(.int (2 : Int32)), (.ref b), (.long ((f2.toInt64) <<< (((32 : Int32)).toInt64 &&& 63))), (.int (1 : Int32)), (.ref a2)])) _
    refine XS.iloadN P11.here hx rfl (hb hby dbn_36) rfl ?_
    show Steps p.tables e below (T11.setTop (mkF m 37 #[.val (.ref ao), .val (.ref a2), .val (.int (1 : Int32)), .unset, .unset, .unset, .unset, .unset, .unset, .unset, .unset] [(.int (1 : Int32)), (.int (2 : Int32)), (.ref b), (.long ((f2.toInt64) <<< (((32 : Int32)).toInt64 &&& 63))), (.int (1 : Int32)), (.ref a2)])) _
    refine XS.imul P11.here hx rfl (hb hby dbn_37) rfl ?_
    show Steps p.tables e below (T11.setTop (mkF m 38 #[.val (.ref ao), .val (.ref a2), .val (.int (1 : Int32)), .unset, .unset, .unset, .unset, .unset, .unset, .unset, .unset] [(.int (2 : Int32)), (.ref b), (.long ((f2.toInt64) <<< (((32 : Int32)).toInt64 &&& 63))), (.int (1 : Int32)), (.ref a2)])) _
    refine XS.iconst P11.here hx rfl (hb hby dbn_38) ?_
    show Steps p.tables e below (T11.setTop (mkF m 39 #[.val (.ref ao), .val (.ref a2), .val (.int (1 : Int32)), .unset, .unset, .unset, .unset, .unset, .unset, .unset, .unset] [(.int (1 : Int32)), (.int (2 : Int32)), (.ref b), (.long ((f2.toInt64) <<< (((32 : Int32)).toInt64 &&& 63))), (.int (1 : Int32)), (.ref a2)])) _
    refine XS.iadd P11.here hx rfl (hb hby dbn_39) rfl ?_
    show Steps p.tables e below (T11.setTop (mkF m 40 #[.val (.ref ao), .val (.ref a2), .val (.int (1 : Int32)), .unset, .unset, .unset, .unset, .unset, .unset, .unset, .unset] [(.int (3 : Int32)), (.ref b), (.long ((f2.toInt64) <<< (((32 : Int32)).toInt64 &&& 63))), (.int (1 : Int32)), (.ref a2)])) _
    refine own_iaload C P11 Y9_b (by decide) rfl dbn_40 ?_
    show Steps p.tables e below (T11.setTop (mkF m 41 #[.val (.ref ao), .val (.ref a2), .val (.int (1 : Int32)), .unset, .unset, .unset, .unset, .unset, .unset, .unset, .unset] [(.int l2), (.long ((f2.toInt64) <<< (((32 : Int32)).toInt64 &&& 63))), (.int (1 : Int32)), (.ref a2)])) _
    refine XT.i2l P11.here hx rfl (hb hby dbn_41) rfl ?_
    show Steps p.tables e below (T11.setTop (mkF m 42 #[.val (.ref ao), .val (.ref a2), .val (.int (1 : Int32)), .unset, .unset, .unset, .unset, .unset, .unset, .unset, .unset] [(.long (l2.toInt64)), (.long ((f2.toInt64) <<< (((32 : Int32)).toInt64 &&& 63))), (.int (1 : Int32)), (.ref a2)])) _
    refine XT.lor P11.here hx rfl (hb hby dbn_42) rfl ?_
    show Steps p.tables e below (T11.setTop (mkF m 43 #[.val (.ref ao), .val (.ref a2), .val (.int (1 : Int32)), .unset, .unset, .unset, .unset, .unset, .unset, .unset, .unset] [(.long (((f2.toInt64) <<< (((32 : Int32)).toInt64 &&& 63)) ||| (l2.toInt64))), (.int (1 : Int32)), (.ref a2)])) _
    exact kQ
  show OwnDone p e below _ (T11.setTop (mkF m 43 #[.val (.ref ao), .val (.ref a2), .val (.int (1 : Int32)), .unset, .unset, .unset, .unset, .unset, .unset, .unset, .unset] [(.long (((f2.toInt64) <<< (((32 : Int32)).toInt64 &&& 63)) ||| (l2.toInt64))), (.int (1 : Int32)), (.ref a2)]))
  show OwnDone p e below _ (T11.setTop (mkF m 43 #[.val (.ref ao), .val (.ref a2), .val (.int (1 : Int32)), .unset, .unset, .unset, .unset, .unset, .unset, .unset, .unset] [(.long (own_pk f2 l2)), (.int (1 : Int32)), (.ref a2)]))
  refine own_lastore C P11 Y7 (by decide) (show ((1 : Int32) : Int32).toNatClampNeg < 2 from by decide) (Or.inr ge_a2) dbn_43 (vs' := [(.long (own_pk f1 l1)), (.long (own_pk f2 l2))]) rfl (fun T12 h12 P12 K12 Y12 => ?_)
  have O13_ao := O8_ao.keep K12 (ninS ne_ao_a2 nin0)
  have Y14_b := Y9_b.keep K12 (ninS ne_b_a2 nin0)
  show OwnDone p e below _ (T12.setTop (mkF m 44 #[.val (.ref ao), .val (.ref a2), .val (.int (1 : Int32)), .unset, .unset, .unset, .unset, .unset, .unset, .unset, .unset] []))
  refine OwnDone.go (A := (T12.setTop (mkF m 14 #[.val (.ref ao), .val (.ref a2), .val (.int (2 : Int32)), .unset, .unset, .unset, .unset, .unset, .unset, .unset, .unset] [(.int (2 : Int32)), (.int (2 : Int32))]))) (fun tQ kQ => ?_) ?_
  · refine XS.iinc P12.here hx rfl (hb hby dbn_44) rfl (l' := #[.val (.ref ao), .val (.ref a2), .val (.int (2 : Int32)), .unset, .unset, .unset, .unset, .unset, .unset, .unset, .unset]) rfl ?_
    show Steps p.tables e below (T12.setTop (mkF m 47 #[.val (.ref ao), .val (.ref a2), .val (.int (2 : Int32)), .unset, .unset, .unset, .unset, .unset, .unset, .unset, .unset] [])) _
    refine XS.goto P12.here hx rfl (pc0 := 47) (pc' := 11) rfl (hb hby dbn_47) (by decide) (by decide) ?_
    show Steps p.tables e below (T12.setTop (mkF m 11 #[.val (.ref ao), .val (.ref a2), .val (.int (2 : Int32)), .unset, .unset, .unset, .unset, .unset, .unset, .unset, .unset] [])) _
    refine XS.iloadN P12.here hx rfl (hb hby dbn_11) rfl ?_
    show Steps p.tables e below (T12.setTop (mkF m 12 #[.val (.ref ao), .val (.ref a2), .val (.int (2 : Int32)), .unset, .unset, .unset, .unset, .unset, .unset, .unset, .unset] [(.int (2 : Int32))])) _
    refine XS.aloadN P12.here hx rfl (hb hby dbn_12) rfl rfl ?_
    show Steps p.tables e below (T12.setTop (mkF m 13 #[.val (.ref ao), .val (.ref a2), .val (.int (2 : Int32)), .unset, .unset, .unset, .unset, .unset, .unset, .unset, .unset] [(.ref a2), (.int (2 : Int32))])) _
    refine own_alen C P12 Y12 dbn_13 ?_
    show Steps p.tables e below (T12.setTop (mkF m 14 #[.val (.ref ao), .val (.ref a2), .val (.int (2 : Int32)), .unset, .unset, .unset, .unset, .unset, .unset, .unset, .unset] [(.int (2 : Int32)), (.int (2 : Int32))])) _
    exact kQ
  show OwnDone p e below _ (T12.setTop (mkF m 14 #[.val (.ref ao), .val (.ref a2), .val (.int (2 : Int32)), .unset, .unset, .unset, .unset, .unset, .unset, .unset, .unset] [(.int (2 : Int32)), (.int (2 : Int32))]))
  refine OwnDone.go (A := (T12.setTop (mkF m 50 #[.val (.ref ao), .val (.ref a2), .val (.int (2 : Int32)), .unset, .unset, .unset, .unset, .unset, .unset, .unset, .unset] []))) (fun tQ kQ => XS.icmpYes P12.here hx rfl (pc0 := 14) (pc' := 50) rfl (hb hby dbn_14) rfl (XT.ii_ge_t (by decide)) (by decide) (by decide) kQ) ?_
  show OwnDone p e below _ (T12.setTop (mkF m 50 #[.val (.ref ao), .val (.ref a2), .val (.int (2 : Int32)), .unset, .unset, .unset, .unset, .unset, .unset, .unset, .unset] []))
  refine OwnDone.go (A := (T12.setTop (mkF m 51 #[.val (.ref ao), .val (.ref a2), .val (.int (2 : Int32)), .unset, .unset, .unset, .unset, .unset, .unset, .unset, .unset] [(.ref a2)]))) (fun tQ kQ => ?_) ?_
  · refine XS.aloadN P12.here hx rfl (hb hby dbn_50) rfl rfl ?_
    show Steps p.tables e below (T12.setTop (mkF m 51 #[.val (.ref ao), .val (.ref a2), .val (.int (2 : Int32)), .unset, .unset, .unset, .unset, .unset, .unset, .unset, .unset] [(.ref a2)])) _
    exact kQ
  show OwnDone p e below _ (T12.setTop (mkF m 51 #[.val (.ref ao), .val (.ref a2), .val (.int (2 : Int32)), .unset, .unset, .unset, .unset, .unset, .unset, .unset, .unset] [(.ref a2)]))
  refine own_callS (y := (⟨"java/util/Arrays", "sort", "([J)V"⟩ : MethodName)) C P12 (hw _ (List.mem_of_getElem? (i := 128) rfl)) (hw _ (List.mem_of_getElem? (i := 129) rfl)) (hw _ (List.mem_of_getElem? (i := 130) rfl)) (hw _ (List.mem_of_getElem? (i := 131) rfl)) (by decide) (rmsoa l Z a0 hw a2 k2 (own_pk f1 l1) (own_pk f2 l2) h12 P12.old (Nat.le_trans hE.1 ge_a2) Y12) (as := [(.ref a2)]) (rest := []) pd_14 rfl rfl (wd := 0) rfl rfl dbn_51 (allS (Or.inr ge_a2) all0) (by decide) (by decide) (by decide) (by decide) (fun T15 h15 v15 P15 K15 hQ15 => ?_)
  obtain ⟨rfl, y015, y115, Y15, so15⟩ := hQ15
  have O16_ao := O13_ao.keep K15 (ninS ne_ao_a2 nin0)
  have Y17_b := Y14_b.keep K15 (ninS ne_b_a2 nin0)
  obtain ⟨rfl, rfl⟩ := own_srt hp hs so15
  show OwnDone p e below _ (T15.setTop (mkF m 54 #[.val (.ref ao), .val (.ref a2), .val (.int (2 : Int32)), .unset, .unset, .unset, .unset, .unset, .unset, .unset, .unset] []))
  refine OwnDone.go (A := (T15.setTop (mkF m 55 #[.val (.ref ao), .val (.ref a2), .val (.int (2 : Int32)), .unset, .unset, .unset, .unset, .unset, .unset, .unset, .unset] [(.ref ao)]))) (fun tQ kQ => ?_) ?_
  · refine XS.aloadN P15.here hx rfl (hb hby dbn_54) rfl rfl ?_
    show Steps p.tables e below (T15.setTop (mkF m 55 #[.val (.ref ao), .val (.ref a2), .val (.int (2 : Int32)), .unset, .unset, .unset, .unset, .unset, .unset, .unset, .unset] [(.ref ao)])) _
    exact kQ
  show OwnDone p e below _ (T15.setTop (mkF m 55 #[.val (.ref ao), .val (.ref a2), .val (.int (2 : Int32)), .unset, .unset, .unset, .unset, .unset, .unset, .unset, .unset] [(.ref ao)]))
  refine own_getF C P15 (host := "") (Or.inl (hw _ (List.mem_of_getElem? (i := 120) rfl))) Via.refl (O16_ao.2 2 _ _ _ _ rfl rfl) dbn_55 (fun T18 P18 => ?_)
  show OwnDone p e below _ (T18.setTop (mkF m 58 #[.val (.ref ao), .val (.ref a2), .val (.int (2 : Int32)), .unset, .unset, .unset, .unset, .unset, .unset, .unset, .unset] [(.int (4 : Int32))]))
  refine own_newP (aty := .int) (n := (4 : Int32)) (cap := 4) (vs := [(.int (0 : Int32)), (.int (0 : Int32)), (.int (0 : Int32)), (.int (0 : Int32))]) C P18 (hw _ (List.mem_of_getElem? (i := 22) rfl)) dbn_58 (by decide) (by decide) (by decide) (by decide +kernel) rfl (by decide) (by decide) (fun T19 h19 a19 k19 ga19 la19 P19 K19 Y19 N19 => ?_)
  have ge_a19 : h0.size ≤ a19 := by rw [ga19]; exact P18.keep.1
  have ne_ao_a19 : ao ≠ a19 := by rw [ga19]; exact Nat.ne_of_lt O16_ao.lt
  have ne_b_a19 : b ≠ a19 := by rw [ga19]; exact Nat.ne_of_lt Y17_b.lt
  have ne_a2_a19 : a2 ≠ a19 := by rw [ga19]; exact Nat.ne_of_lt Y15.lt
  have O20_ao := O16_ao.keep K19 nin0
  have Y21_b := Y17_b.keep K19 nin0
  have Y22_a2 := Y15.keep K19 nin0
  have Y19 : OwnAry Z h19 a19 k19 .int [(.int (0 : Int32)), (.int (0 : Int32)), (.int (0 : Int32)), (.int (0 : Int32))] := Y19
  show OwnDone p e below _ (T19.setTop (mkF m 60 #[.val (.ref ao), .val (.ref a2), .val (.int (2 : Int32)), .unset, .unset, .unset, .unset, .unset, .unset, .unset, .unset] [(.ref a19)]))
  refine OwnDone.go (A := (T19.setTop (mkF m 78 #[.val (.ref ao), .val (.ref a2), .val (.ref a19), .val (.int (0 : Int32)), .val (.ref a2), .val (.int (2 : Int32)), .val (.int (0 : Int32)), .unset, .unset, .unset, .unset] [(.int (2 : Int32)), (.int (0 : Int32))]))) (fun tQ kQ => ?_) ?_
  · refine XS.astoreN P19.here hx rfl (hb hby dbn_60) rfl rfl (l' := #[.val (.ref ao), .val (.ref a2), .val (.ref a19), .unset, .unset, .unset, .unset, .unset, .unset, .unset, .unset]) rfl ?_
    show Steps p.tables e below (T19.setTop (mkF m 61 #[.val (.ref ao), .val (.ref a2), .val (.ref a19), .unset, .unset, .unset, .unset, .unset, .unset, .unset, .unset] [])) _
    refine XS.iconst P19.here hx rfl (hb hby dbn_61) ?_
    show Steps p.tables e below (T19.setTop (mkF m 62 #[.val (.ref ao), .val (.ref a2), .val (.ref a19), .unset, .unset, .unset, .unset, .unset, .unset, .unset, .unset] [(.int (0 : Int32))])) _
    refine XS.istoreN P19.here hx rfl (hb hby dbn_62) rfl (l' := #[.val (.ref ao), .val (.ref a2), .val (.ref a19), .val (.int (0 : Int32)), .unset, .unset, .unset, .unset, .unset, .unset, .unset]) rfl ?_
    show Steps p.tables e below (T19.setTop (mkF m 63 #[.val (.ref ao), .val (.ref a2), .val (.ref a19), .val (.int (0 : Int32)), .unset, .unset, .unset, .unset, .unset, .unset, .unset] [])) _
    refine XS.aloadN P19.here hx rfl (hb hby dbn_63) rfl rfl ?_
    show Steps p.tables e below (T19.setTop (mkF m 64 #[.val (.ref ao), .val (.ref a2), .val (.ref a19), .val (.int (0 : Int32)), .unset, .unset, .unset, .unset, .unset, .unset, .unset] [(.ref a2)])) _
    refine XS.astore P19.here hx rfl (hb hby dbn_64) rfl rfl (l' := #[.val (.ref ao), .val (.ref a2), .val (.ref a19), .val (.int (0 : Int32)), .val (.ref a2), .unset, .unset, .unset, .unset, .unset, .unset]) rfl ?_
    show Steps p.tables e below (T19.setTop (mkF m 66 #[.val (.ref ao), .val (.ref a2), .val (.ref a19), .val (.int (0 : Int32)), .val (.ref a2), .unset, .unset, .unset, .unset, .unset, .unset] [])) _
    refine XS.aload P19.here hx rfl (hb hby dbn_66) rfl rfl ?_
    show Steps p.tables e below (T19.setTop (mkF m 68 #[.val (.ref ao), .val (.ref a2), .val (.ref a19), .val (.int (0 : Int32)), .val (.ref a2), .unset, .unset, .unset, .unset, .unset, .unset] [(.ref a2)])) _
    refine own_alen C P19 Y22_a2 dbn_68 ?_
    show Steps p.tables e below (T19.setTop (mkF m 69 #[.val (.ref ao), .val (.ref a2), .val (.ref a19), .val (.int (0 : Int32)), .val (.ref a2), .unset, .unset, .unset, .unset, .unset, .unset] [(.int (2 : Int32))])) _
    refine XS.istore P19.here hx rfl (hb hby dbn_69) rfl (l' := #[.val (.ref ao), .val (.ref a2), .val (.ref a19), .val (.int (0 : Int32)), .val (.ref a2), .val (.int (2 : Int32)), .unset, .unset, .unset, .unset, .unset]) rfl ?_
    show Steps p.tables e below (T19.setTop (mkF m 71 #[.val (.ref ao), .val (.ref a2), .val (.ref a19), .val (.int (0 : Int32)), .val (.ref a2), .val (.int (2 : Int32)), .unset, .unset, .unset, .unset, .unset] [])) _
    refine XS.iconst P19.here hx rfl (hb hby dbn_71) ?_
    show Steps p.tables e below (T19.setTop (mkF m 72 #[.val (.ref ao), .val (.ref a2), .val (.ref a19), .val (.int (0 : Int32)), .val (.ref a2), .val (.int (2 : Int32)), .unset, .unset, .unset, .unset, .unset] [(.int (0 : Int32))])) _
    refine XS.istore P19.here hx rfl (hb hby dbn_72) rfl (l' := #[.val (.ref ao), .val (.ref a2), .val (.ref a19), .val (.int (0 : Int32)), .val (.ref a2), .val (.int (2 : Int32)), .val (.int (0 : Int32)), .unset, .unset, .unset, .unset]) rfl ?_
    show Steps p.tables e below (T19.setTop (mkF m 74 #[.val (.ref ao), .val (.ref a2), .val (.ref a19), .val (.int (0 : Int32)), .val (.ref a2), .val (.int (2 : Int32)), .val (.int (0 : Int32)), .unset, .unset, .unset, .unset] [])) _
    refine XS.iload P19.here hx rfl (hb hby dbn_74) rfl ?_
    show Steps p.tables e below (T19.setTop (mkF m 76 #[.val (.ref ao), .val (.ref a2), .val (.ref a19), .val (.int (0 : Int32)), .val (.ref a2), .val (.int (2 : Int32)), .val (.int (0 : Int32)), .unset, .unset, .unset, .unset] [(.int (0 : Int32))])) _
    refine XS.iload P19.here hx rfl (hb hby dbn_76) rfl ?_
    show Steps p.tables e below (T19.setTop (mkF m 78 #[.val (.ref ao), .val (.ref a2), .val (.ref a19), .val (.int (0 : Int32)), .val (.ref a2), .val (.int (2 : Int32)), .val (.int (0 : Int32)), .unset, .unset, .unset, .unset] [(.int (2 : Int32)), (.int (0 : Int32))])) _
    exact kQ
  show OwnDone p e below _ (T19.setTop (mkF m 78 #[.val (.ref ao), .val (.ref a2), .val (.ref a19), .val (.int (0 : Int32)), .val (.ref a2), .val (.int (2 : Int32)), .val (.int (0 : Int32)), .unset, .unset, .unset, .unset] [(.int (2 : Int32)), (.int (0 : Int32))]))
  refine OwnDone.go (A := (T19.setTop (mkF m 81 #[.val (.ref ao), .val (.ref a2), .val (.ref a19), .val (.int (0 : Int32)), .val (.ref a2), .val (.int (2 : Int32)), .val (.int (0 : Int32)), .unset, .unset, .unset, .unset] []))) (fun tQ kQ => XS.icmpNo P19.here hx rfl (hb hby dbn_78) rfl (XT.ii_ge_f (by decide)) kQ) ?_
  show OwnDone p e below _ (T19.setTop (mkF m 81 #[.val (.ref ao), .val (.ref a2), .val (.ref a19), .val (.int (0 : Int32)), .val (.ref a2), .val (.int (2 : Int32)), .val (.int (0 : Int32)), .unset, .unset, .unset, .unset] []))
  refine OwnDone.go (A := (T19.setTop (mkF m 101 #[.val (.ref ao), .val (.ref a2), .val (.ref a19), .val (.int (0 : Int32)), .val (.ref a2), .val (.int (2 : Int32)), .val (.int (0 : Int32)), .val (.long (own_pk fa la)), .second, .val (.int ((XT.ushrL (own_pk fa la) (32 : Int32)).toInt32)), .val (.int ((own_pk fa la).toInt32))] []))) (fun tQ kQ => ?_) ?_
  · refine XS.aload P19.here hx rfl (hb hby dbn_81) rfl rfl ?_
    show Steps p.tables e below (T19.setTop (mkF m 83 #[.val (.ref ao), .val (.ref a2), .val (.ref a19), .val (.int (0 : Int32)), .val (.ref a2), .val (.int (2 : Int32)), .val (.int (0 : Int32)), .unset, .unset, .unset, .unset] [(.ref a2)])) _
    refine XS.iload P19.here hx rfl (hb hby dbn_83) rfl ?_
    show Steps p.tables e below (T19.setTop (mkF m 85 #[.val (.ref ao), .val (.ref a2), .val (.ref a19), .val (.int (0 : Int32)), .val (.ref a2), .val (.int (2 : Int32)), .val (.int (0 : Int32)), .unset, .unset, .unset, .unset] [(.int (0 : Int32)), (.ref a2)])) _
    refine own_laload C P19 Y22_a2 (by decide) rfl dbn_85 ?_
    show Steps p.tables e below (T19.setTop (mkF m 86 #[.val (.ref ao), .val (.ref a2), .val (.ref a19), .val (.int (0 : Int32)), .val (.ref a2), .val (.int (2 : Int32)), .val (.int (0 : Int32)), .unset, .unset, .unset, .unset] [(.long (own_pk fa la))])) _
    refine XT.lstore P19.here hx rfl (hb hby dbn_86) rfl (l' := #[.val (.ref ao), .val (.ref a2), .val (.ref a19), .val (.int (0 : Int32)), .val (.ref a2), .val (.int (2 : Int32)), .val (.int (0 : Int32)), .val (.long (own_pk fa la)), .second, .unset, .unset]) rfl ?_
    show Steps p.tables e below (T19.setTop (mkF m 88 #[.val (.ref ao), .val (.ref a2), .val (.ref a19), .val (.int (0 : Int32)), .val (.ref a2), .val (.int (2 : Int32)), .val (.int (0 : Int32)), .val (.long (own_pk fa la)), .second, .unset, .unset] [])) _
    refine XT.lload P19.here hx rfl (hb hby dbn_88) rfl ?_
    show Steps p.tables e below (T19.setTop (mkF m 90 #[.val (.ref ao), .val (.ref a2), .val (.ref a19), .val (.int (0 : Int32)), .val (.ref a2), .val (.int (2 : Int32)), .val (.int (0 : Int32)), .val (.long (own_pk fa la)), .second, .unset, .unset] [(.long (own_pk fa la))])) _
    refine XS.bipush P19.here hx rfl (hb hby dbn_90) ?_
    show Steps p.tables e below (T19.setTop (mkF m 92 #[.val (.ref ao), .val (.ref a2), .val (.ref a19), .val (.int (0 : Int32)), .val (.ref a2), .val (.int (2 : Int32)), .val (.int (0 : Int32)), .val (.long (own_pk fa la)), .second, .unset, .unset] [(.int (32 : Int32)), (.long (own_pk fa la))])) _
    refine XT.lushr P19.here hx rfl (hb hby dbn_92) rfl ?_
    show Steps p.tables e below (T19.setTop (mkF m 93 #[.val (.ref ao), .val (.ref a2), .val (.ref a19), .val (.int (0 : Int32)), .val (.ref a2), .val (.int (2 : Int32)), .val (.int (0 : Int32)), .val (.long (own_pk fa la)), .second, .unset, .unset] [(.long (XT.ushrL (own_pk fa la) (32 : Int32)))])) _
    refine XT.l2i P19.here hx rfl (hb hby dbn_93) rfl ?_
    show Steps p.tables e below (T19.setTop (mkF m 94 #[.val (.ref ao), .val (.ref a2), .val (.ref a19), .val (.int (0 : Int32)), .val (.ref a2), .val (.int (2 : Int32)), .val (.int (0 : Int32)), .val (.long (own_pk fa la)), .second, .unset, .unset] [(.int ((XT.ushrL (own_pk fa la) (32 : Int32)).toInt32))])) _
    refine XS.istore P19.here hx rfl (hb hby dbn_94) rfl (l' := #[.val (.ref ao), .val (.ref a2), .val (.ref a19), .val (.int (0 : Int32)), .val (.ref a2), .val (.int (2 : Int32)), .val (.int (0 : Int32)), .val (.long (own_pk fa la)), .second, .val (.int ((XT.ushrL (own_pk fa la) (32 : Int32)).toInt32)), .unset]) rfl ?_
    show Steps p.tables e below (T19.setTop (mkF m 96 #[.val (.ref ao), .val (.ref a2), .val (.ref a19), .val (.int (0 : Int32)), .val (.ref a2), .val (.int (2 : Int32)), .val (.int (0 : Int32)), .val (.long (own_pk fa la)), .second, .val (.int ((XT.ushrL (own_pk fa la) (32 : Int32)).toInt32)), .unset] [])) _
    refine XT.lload P19.here hx rfl (hb hby dbn_96) rfl ?_
    show Steps p.tables e below (T19.setTop (mkF m 98 #[.val (.ref ao), .val (.ref a2), .val (.ref a19), .val (.int (0 : Int32)), .val (.ref a2), .val (.int (2 : Int32)), .val (.int (0 : Int32)), .val (.long (own_pk fa la)), .second, .val (.int ((XT.ushrL (own_pk fa la) (32 : Int32)).toInt32)), .unset] [(.long (own_pk fa la))])) _
    refine XT.l2i P19.here hx rfl (hb hby dbn_98) rfl ?_
    show Steps p.tables e below (T19.setTop (mkF m 99 #[.val (.ref ao), .val (.ref a2), .val (.ref a19), .val (.int (0 : Int32)), .val (.ref a2), .val (.int (2 : Int32)), .val (.int (0 : Int32)), .val (.long (own_pk fa la)), .second, .val (.int ((XT.ushrL (own_pk fa la) (32 : Int32)).toInt32)), .unset] [(.int ((own_pk fa la).toInt32))])) _
    refine XS.istore P19.here hx rfl (hb hby dbn_99) rfl (l' := #[.val (.ref ao), .val (.ref a2), .val (.ref a19), .val (.int (0 : Int32)), .val (.ref a2), .val (.int (2 : Int32)), .val (.int (0 : Int32)), .val (.long (own_pk fa la)), .second, .val (.int ((XT.ushrL (own_pk fa la) (32 : Int32)).toInt32)), .val (.int ((own_pk fa la).toInt32))]) rfl ?_
    show Steps p.tables e below (T19.setTop (mkF m 101 #[.val (.ref ao), .val (.ref a2), .val (.ref a19), .val (.int (0 : Int32)), .val (.ref a2), .val (.int (2 : Int32)), .val (.int (0 : Int32)), .val (.long (own_pk fa la)), .second, .val (.int ((XT.ushrL (own_pk fa la) (32 : Int32)).toInt32)), .val (.int ((own_pk fa la).toInt32))] [])) _
    exact kQ
  show OwnDone p e below _ (T19.setTop (mkF m 101 #[.val (.ref ao), .val (.ref a2), .val (.ref a19), .val (.int (0 : Int32)), .val (.ref a2), .val (.int (2 : Int32)), .val (.int (0 : Int32)), .val (.long (own_pk fa la)), .second, .val (.int ((XT.ushrL (own_pk fa la) (32 : Int32)).toInt32)), .val (.int ((own_pk fa la).toInt32))] []))
  rw [own_pk_f nn.1 nn.2.1, own_pk_l nn.1 nn.2.1]
  show OwnDone p e below _ (T19.setTop (mkF m 101 #[.val (.ref ao), .val (.ref a2), .val (.ref a19), .val (.int (0 : Int32)), .val (.ref a2), .val (.int (2 : Int32)), .val (.int (0 : Int32)), .val (.long (own_pk fa la)), .second, .val (.int fa), .val (.int la)] []))
  refine OwnDone.go (A := (T19.setTop (mkF m 102 #[.val (.ref ao), .val (.ref a2), .val (.ref a19), .val (.int (0 : Int32)), .val (.ref a2), .val (.int (2 : Int32)), .val (.int (0 : Int32)), .val (.long (own_pk fa la)), .second, .val (.int fa), .val (.int la)] [(.int (0 : Int32))]))) (fun tQ kQ => ?_) ?_
  · refine XS.iloadN P19.here hx rfl (hb hby dbn_101) rfl ?_
    show Steps p.tables e below (T19.setTop (mkF m 102 #[.val (.ref ao), .val (.ref a2), .val (.ref a19), .val (.int (0 : Int32)), .val (.ref a2), .val (.int (2 : Int32)), .val (.int (0 : Int32)), .val (.long (own_pk fa la)), .second, .val (.int fa), .val (.int la)] [(.int (0 : Int32))])) _
    exact kQ
  show OwnDone p e below _ (T19.setTop (mkF m 102 #[.val (.ref ao), .val (.ref a2), .val (.ref a19), .val (.int (0 : Int32)), .val (.ref a2), .val (.int (2 : Int32)), .val (.int (0 : Int32)), .val (.long (own_pk fa la)), .second, .val (.int fa), .val (.int la)] [(.int (0 : Int32))]))
  refine OwnDone.go (A := (T19.setTop (mkF m 135 #[.val (.ref ao), .val (.ref a2), .val (.ref a19), .val (.int (0 : Int32)), .val (.ref a2), .val (.int (2 : Int32)), .val (.int (0 : Int32)), .val (.long (own_pk fa la)), .second, .val (.int fa), .val (.int la)] []))) (fun tQ kQ => XS.ifYes P19.here hx rfl (pc0 := 102) (pc' := 135) rfl (hb hby dbn_102) rfl (XT.i0_le_t (by decide)) (by decide) (by decide) kQ) ?_
  show OwnDone p e below _ (T19.setTop (mkF m 135 #[.val (.ref ao), .val (.ref a2), .val (.ref a19), .val (.int (0 : Int32)), .val (.ref a2), .val (.int (2 : Int32)), .val (.int (0 : Int32)), .val (.long (own_pk fa la)), .second, .val (.int fa), .val (.int la)] []))
  refine OwnDone.go (A := (T19.setTop (mkF m 139 #[.val (.ref ao), .val (.ref a2), .val (.ref a19), .val (.int (0 : Int32)), .val (.ref a2), .val (.int (2 : Int32)), .val (.int (0 : Int32)), .val (.long (own_pk fa la)), .second, .val (.int fa), .val (.int la)] [(.int fa), (.int (0 : Int32)), (.ref a19)]))) (fun tQ kQ => ?_) ?_
  · refine XS.aloadN P19.here hx rfl (hb hby dbn_135) rfl rfl ?_
    show Steps p.tables e below (T19.setTop (mkF m 136 #[.val (.ref ao), .val (.ref a2), .val (.ref a19), .val (.int (0 : Int32)), .val (.ref a2), .val (.int (2 : Int32)), .val (.int (0 : Int32)), .val (.long (own_pk fa la)), .second, .val (.int fa), .val (.int la)] [(.ref a19)])) _
    refine XS.iloadN P19.here hx rfl (hb hby dbn_136) rfl ?_
    show Steps p.tables e below (T19.setTop (mkF m 137 #[.val (.ref ao), .val (.ref a2), .val (.ref a19), .val (.int (0 : Int32)), .val (.ref a2), .val (.int (2 : Int32)), .val (.int (0 : Int32)), .val (.long (own_pk fa la)), .second, .val (.int fa), .val (.int la)] [(.int (0 : Int32)), (.ref a19)])) _
    refine XS.iload P19.here hx rfl (hb hby dbn_137) rfl ?_
    show Steps p.tables e below (T19.setTop (mkF m 139 #[.val (.ref ao), .val (.ref a2), .val (.ref a19), .val (.int (0 : Int32)), .val (.ref a2), .val (.int (2 : Int32)), .val (.int (0 : Int32)), .val (.long (own_pk fa la)), .second, .val (.int fa), .val (.int la)] [(.int fa), (.int (0 : Int32)), (.ref a19)])) _
    exact kQ
  show OwnDone p e below _ (T19.setTop (mkF m 139 #[.val (.ref ao), .val (.ref a2), .val (.ref a19), .val (.int (0 : Int32)), .val (.ref a2), .val (.int (2 : Int32)), .val (.int (0 : Int32)), .val (.long (own_pk fa la)), .second, .val (.int fa), .val (.int la)] [(.int fa), (.int (0 : Int32)), (.ref a19)]))
  refine own_iastore C P19 Y19 (by decide) (show ((0 : Int32) : Int32).toNatClampNeg < 4 from by decide) (Or.inr ge_a19) dbn_139 (vs' := [(.int fa), (.int (0 : Int32)), (.int (0 : Int32)), (.int (0 : Int32))]) rfl (fun T23 h23 P23 K23 Y23 => ?_)
  have O24_ao := O20_ao.keep K23 (ninS ne_ao_a19 nin0)
  have Y25_b := Y21_b.keep K23 (ninS ne_b_a19 nin0)
  have Y26_a2 := Y22_a2.keep K23 (ninS ne_a2_a19 nin0)
  show OwnDone p e below _ (T23.setTop (mkF m 140 #[.val (.ref ao), .val (.ref a2), .val (.ref a19), .val (.int (0 : Int32)), .val (.ref a2), .val (.int (2 : Int32)), .val (.int (0 : Int32)), .val (.long (own_pk fa la)), .second, .val (.int fa), .val (.int la)] []))
  refine OwnDone.go (A := (T23.setTop (mkF m 146 #[.val (.ref ao), .val (.ref a2), .val (.ref a19), .val (.int (0 : Int32)), .val (.ref a2), .val (.int (2 : Int32)), .val (.int (0 : Int32)), .val (.long (own_pk fa la)), .second, .val (.int fa), .val (.int la)] [(.int la), (.int (1 : Int32)), (.ref a19)]))) (fun tQ kQ => ?_) ?_
  · refine XS.aloadN P23.here hx rfl (hb hby dbn_140) rfl rfl ?_
    show Steps p.tables e below (T23.setTop (mkF m 141 #[.val (.ref ao), .val (.ref a2), .val (.ref a19), .val (.int (0 : Int32)), .val (.ref a2), .val (.int (2 : Int32)), .val (.int (0 : Int32)), .val (.long (own_pk fa la)), .second, .val (.int fa), .val (.int la)] [(.ref a19)])) _
    refine XS.iloadN P23.here hx rfl (hb hby dbn_141) rfl ?_
    show Steps p.tables e below (T23.setTop (mkF m 142 #[.val (.ref ao), .val (.ref a2), .val (.ref a19), .val (.int (0 : Int32)), .val (.ref a2), .val (.int (2 : Int32)), .val (.int (0 : Int32)), .val (.long (own_pk fa la)), .second, .val (.int fa), .val (.int la)] [(.int (0 : Int32)), (.ref a19)])) _
    refine XS.iconst P23.here hx rfl (hb hby dbn_142) ?_
    show Steps p.tables e below (T23.setTop (mkF m 143 #[.val (.ref ao), .val (.ref a2), .val (.ref a19), .val (.int (0 : Int32)), .val (.ref a2), .val (.int (2 : Int32)), .val (.int (0 : Int32)), .val (.long (own_pk fa la)), .second, .val (.int fa), .val (.int la)] [(.int (1 : Int32)), (.int (0 : Int32)), (.ref a19)])) _
    refine XS.iadd P23.here hx rfl (hb hby dbn_143) rfl ?_
    show Steps p.tables e below (T23.setTop (mkF m 144 #[.val (.ref ao), .val (.ref a2), .val (.ref a19), .val (.int (0 : Int32)), .val (.ref a2), .val (.int (2 : Int32)), .val (.int (0 : Int32)), .val (.long (own_pk fa la)), .second, .val (.int fa), .val (.int la)] [(.int (1 : Int32)), (.ref a19)])) _
    refine XS.iload P23.here hx rfl (hb hby dbn_144) rfl ?_
    show Steps p.tables e below (T23.setTop (mkF m 146 #[.val (.ref ao), .val (.ref a2), .val (.ref a19), .val (.int (0 : Int32)), .val (.ref a2), .val (.int (2 : Int32)), .val (.int (0 : Int32)), .val (.long (own_pk fa la)), .second, .val (.int fa), .val (.int la)] [(.int la), (.int (1 : Int32)), (.ref a19)])) _
    exact kQ
  show OwnDone p e below _ (T23.setTop (mkF m 146 #[.val (.ref ao), .val (.ref a2), .val (.ref a19), .val (.int (0 : Int32)), .val (.ref a2), .val (.int (2 : Int32)), .val (.int (0 : Int32)), .val (.long (own_pk fa la)), .second, .val (.int fa), .val (.int la)] [(.int la), (.int (1 : Int32)), (.ref a19)]))
  refine own_iastore C P23 Y23 (by decide) (show ((1 : Int32) : Int32).toNatClampNeg < 4 from by decide) (Or.inr ge_a19) dbn_146 (vs' := [(.int fa), (.int la), (.int (0 : Int32)), (.int (0 : Int32))]) rfl (fun T27 h27 P27 K27 Y27 => ?_)
  have O28_ao := O24_ao.keep K27 (ninS ne_ao_a19 nin0)
  have Y29_b := Y25_b.keep K27 (ninS ne_b_a19 nin0)
  have Y30_a2 := Y26_a2.keep K27 (ninS ne_a2_a19 nin0)
  show OwnDone p e below _ (T27.setTop (mkF m 147 #[.val (.ref ao), .val (.ref a2), .val (.ref a19), .val (.int (0 : Int32)), .val (.ref a2), .val (.int (2 : Int32)), .val (.int (0 : Int32)), .val (.long (own_pk fa la)), .second, .val (.int fa), .val (.int la)] []))
  refine OwnDone.go (A := (T27.setTop (mkF m 150 #[.val (.ref ao), .val (.ref a2), .val (.ref a19), .val (.int (2 : Int32)), .val (.ref a2), .val (.int (2 : Int32)), .val (.int (0 : Int32)), .val (.long (own_pk fa la)), .second, .val (.int fa), .val (.int la)] []))) (fun tQ kQ => ?_) ?_
  · refine XS.iinc P27.here hx rfl (hb hby dbn_147) rfl (l' := #[.val (.ref ao), .val (.ref a2), .val (.ref a19), .val (.int (2 : Int32)), .val (.ref a2), .val (.int (2 : Int32)), .val (.int (0 : Int32)), .val (.long (own_pk fa la)), .second, .val (.int fa), .val (.int la)]) rfl ?_
    show Steps p.tables e below (T27.setTop (mkF m 150 #[.val (.ref ao), .val (.ref a2), .val (.ref a19), .val (.int (2 : Int32)), .val (.ref a2), .val (.int (2 : Int32)), .val (.int (0 : Int32)), .val (.long (own_pk fa la)), .second, .val (.int fa), .val (.int la)] [])) _
    exact kQ
  show OwnDone p e below _ (T27.setTop (mkF m 150 #[.val (.ref ao), .val (.ref a2), .val (.ref a19), .val (.int (2 : Int32)), .val (.ref a2), .val (.int (2 : Int32)), .val (.int (0 : Int32)), .val (.long (own_pk fa la)), .second, .val (.int fa), .val (.int la)] []))
  refine OwnDone.go (A := (T27.setTop (mkF m 78 #[.val (.ref ao), .val (.ref a2), .val (.ref a19), .val (.int (2 : Int32)), .val (.ref a2), .val (.int (2 : Int32)), .val (.int (1 : Int32)), .val (.long (own_pk fa la)), .second, .val (.int fa), .val (.int la)] [(.int (2 : Int32)), (.int (1 : Int32))]))) (fun tQ kQ => ?_) ?_
  · refine XS.iinc P27.here hx rfl (hb hby dbn_150) rfl (l' := #[.val (.ref ao), .val (.ref a2), .val (.ref a19), .val (.int (2 : Int32)), .val (.ref a2), .val (.int (2 : Int32)), .val (.int (1 : Int32)), .val (.long (own_pk fa la)), .second, .val (.int fa), .val (.int la)]) rfl ?_
    show Steps p.tables e below (T27.setTop (mkF m 153 #[.val (.ref ao), .val (.ref a2), .val (.ref a19), .val (.int (2 : Int32)), .val (.ref a2), .val (.int (2 : Int32)), .val (.int (1 : Int32)), .val (.long (own_pk fa la)), .second, .val (.int fa), .val (.int la)] [])) _
    refine XS.goto P27.here hx rfl (pc0 := 153) (pc' := 74) rfl (hb hby dbn_153) (by decide) (by decide) ?_
    show Steps p.tables e below (T27.setTop (mkF m 74 #[.val (.ref ao), .val (.ref a2), .val (.ref a19), .val (.int (2 : Int32)), .val (.ref a2), .val (.int (2 : Int32)), .val (.int (1 : Int32)), .val (.long (own_pk fa la)), .second, .val (.int fa), .val (.int la)] [])) _
    refine XS.iload P27.here hx rfl (hb hby dbn_74) rfl ?_
    show Steps p.tables e below (T27.setTop (mkF m 76 #[.val (.ref ao), .val (.ref a2), .val (.ref a19), .val (.int (2 : Int32)), .val (.ref a2), .val (.int (2 : Int32)), .val (.int (1 : Int32)), .val (.long (own_pk fa la)), .second, .val (.int fa), .val (.int la)] [(.int (1 : Int32))])) _
    refine XS.iload P27.here hx rfl (hb hby dbn_76) rfl ?_
    show Steps p.tables e below (T27.setTop (mkF m 78 #[.val (.ref ao), .val (.ref a2), .val (.ref a19), .val (.int (2 : Int32)), .val (.ref a2), .val (.int (2 : Int32)), .val (.int (1 : Int32)), .val (.long (own_pk fa la)), .second, .val (.int fa), .val (.int la)] [(.int (2 : Int32)), (.int (1 : Int32))])) _
    exact kQ
  show OwnDone p e below _ (T27.setTop (mkF m 78 #[.val (.ref ao), .val (.ref a2), .val (.ref a19), .val (.int (2 : Int32)), .val (.ref a2), .val (.int (2 : Int32)), .val (.int (1 : Int32)), .val (.long (own_pk fa la)), .second, .val (.int fa), .val (.int la)] [(.int (2 : Int32)), (.int (1 : Int32))]))
  refine OwnDone.go (A := (T27.setTop (mkF m 81 #[.val (.ref ao), .val (.ref a2), .val (.ref a19), .val (.int (2 : Int32)), .val (.ref a2), .val (.int (2 : Int32)), .val (.int (1 : Int32)), .val (.long (own_pk fa la)), .second, .val (.int fa), .val (.int la)] []))) (fun tQ kQ => XS.icmpNo P27.here hx rfl (hb hby dbn_78) rfl (XT.ii_ge_f (by decide)) kQ) ?_
  show OwnDone p e below _ (T27.setTop (mkF m 81 #[.val (.ref ao), .val (.ref a2), .val (.ref a19), .val (.int (2 : Int32)), .val (.ref a2), .val (.int (2 : Int32)), .val (.int (1 : Int32)), .val (.long (own_pk fa la)), .second, .val (.int fa), .val (.int la)] []))
  refine OwnDone.go (A := (T27.setTop (mkF m 101 #[.val (.ref ao), .val (.ref a2), .val (.ref a19), .val (.int (2 : Int32)), .val (.ref a2), .val (.int (2 : Int32)), .val (.int (1 : Int32)), .val (.long (own_pk fb lb)), .second, .val (.int ((XT.ushrL (own_pk fb lb) (32 : Int32)).toInt32)), .val (.int ((own_pk fb lb).toInt32))] []))) (fun tQ kQ => ?_) ?_
  · refine XS.aload P27.here hx rfl (hb hby dbn_81) rfl rfl ?_
    show Steps p.tables e below (T27.setTop (mkF m 83 #[.val (.ref ao), .val (.ref a2), .val (.ref a19), .val (.int (2 : Int32)), .val (.ref a2), .val (.int (2 : Int32)), .val (.int (1 : Int32)), .val (.long (own_pk fa la)), .second, .val (.int fa), .val (.int la)] [(.ref a2)])) _
    refine XS.iload P27.here hx rfl (hb hby dbn_83) rfl ?_
    show Steps p.tables e below (T27.setTop (mkF m 85 #[.val (.ref ao), .val (.ref a2), .val (.ref a19), .val (.int (2 : Int32)), .val (.ref a2), .val (.int (2 : Int32)), .val (.int (1 : Int32)), .val (.long (own_pk fa la)), .second, .val (.int fa), .val (.int la)] [(.int (1 : Int32)), (.ref a2)])) _
    refine own_laload C P27 Y30_a2 (by decide) rfl dbn_85 ?_
    show Steps p.tables e below (T27.setTop (mkF m 86 #[.val (.ref ao), .val (.ref a2), .val (.ref a19), .val (.int (2 : Int32)), .val (.ref a2), .val (.int (2 : Int32)), .val (.int (1 : Int32)), .val (.long (own_pk fa la)), .second, .val (.int fa), .val (.int la)] [(.long (own_pk fb lb))])) _
    refine XT.lstore P27.here hx rfl (hb hby dbn_86) rfl (l' := #[.val (.ref ao), .val (.ref a2), .val (.ref a19), .val (.int (2 : Int32)), .val (.ref a2), .val (.int (2 : Int32)), .val (.int (1 : Int32)), .val (.long (own_pk fb lb)), .second, .val (.int fa), .val (.int la)]) rfl ?_
    show Steps p.tables e below (T27.setTop (mkF m 88 #[.val (.ref ao), .val (.ref a2), .val (.ref a19), .val (.int (2 : Int32)), .val (.ref a2), .val (.int (2 : Int32)), .val (.int (1 : Int32)), .val (.long (own_pk fb lb)), .second, .val (.int fa), .val (.int la)] [])) _
    refine XT.lload P27.here hx rfl (hb hby dbn_88) rfl ?_
    show Steps p.tables e below (T27.setTop (mkF m 90 #[.val (.ref ao), .val (.ref a2), .val (.ref a19), .val (.int (2 : Int32)), .val (.ref a2), .val (.int (2 : Int32)), .val (.int (1 : Int32)), .val (.long (own_pk fb lb)), .second, .val (.int fa), .val (.int la)] [(.long (own_pk fb lb))])) _
    refine XS.bipush P27.here hx rfl (hb hby dbn_90) ?_
    show Steps p.tables e below (T27.setTop (mkF m 92 #[.val (.ref ao), .val (.ref a2), .val (.ref a19), .val (.int (2 : Int32)), .val (.ref a2), .val (.int (2 : Int32)), .val (.int (1 : Int32)), .val (.long (own_pk fb lb)), .second, .val (.int fa), .val (.int la)] [(.int (32 : Int32)), (.long (own_pk fb lb))])) _
    refine XT.lushr P27.here hx rfl (hb hby dbn_92) rfl ?_
    show Steps p.tables e below (T27.setTop (mkF m 93 #[.val (.ref ao), .val (.ref a2), .val (.ref a19), .val (.int (2 : Int32)), .val (.ref a2), .val (.int (2 : Int32)), .val (.int (1 : Int32)), .val (.long (own_pk fb lb)), .second, .val (.int fa), .val (.int la)] [(.long (XT.ushrL (own_pk fb lb) (32 : Int32)))])) _
    refine XT.l2i P27.here hx rfl (hb hby dbn_93) rfl ?_
    show Steps p.tables e below (T27.setTop (mkF m 94 #[.val (.ref ao), .val (.ref a2), .val (.ref a19), .val (.int (2 : Int32)), .val (.ref a2), .val (.int (2 : Int32)), .val (.int (1 : Int32)), .val (.long (own_pk fb lb)), .second, .val (.int fa), .val (.int la)] [(.int ((XT.ushrL (own_pk fb lb) (32 : Int32)).toInt32))])) _
    refine XS.istore P27.here hx rfl (hb hby dbn_94) rfl (l' := #[.val (.ref ao), .val (.ref a2), .val (.ref a19), .val (.int (2 : Int32)), .val (.ref a2), .val (.int (2 : Int32)), .val (.int (1 : Int32)), .val (.long (own_pk fb lb)), .second, .val (.int ((XT.ushrL (own_pk fb lb) (32 : Int32)).toInt32)), .val (.int la)]) rfl ?_
    show Steps p.tables e below (T27.setTop (mkF m 96 #[.val (.ref ao), .val (.ref a2), .val (.ref a19), .val (.int (2 : Int32)), .val (.ref a2), .val (.int (2 : Int32)), .val (.int (1 : Int32)), .val (.long (own_pk fb lb)), .second, .val (.int ((XT.ushrL (own_pk fb lb) (32 : Int32)).toInt32)), .val (.int la)] [])) _
    refine XT.lload P27.here hx rfl (hb hby dbn_96) rfl ?_
    show Steps p.tables e below (T27.setTop (mkF m 98 #[.val (.ref ao), .val (.ref a2), .val (.ref a19), .val (.int (2 : Int32)), .val (.ref a2), .val (.int (2 : Int32)), .val (.int (1 : Int32)), .val (.long (own_pk fb lb)), .second, .val (.int ((XT.ushrL (own_pk fb lb) (32 : Int32)).toInt32)), .val (.int la)] [(.long (own_pk fb lb))])) _
    refine XT.l2i P27.here hx rfl (hb hby dbn_98) rfl ?_
    show Steps p.tables e below (T27.setTop (mkF m 99 #[.val (.ref ao), .val (.ref a2), .val (.ref a19), .val (.int (2 : Int32)), .val (.ref a2), .val (.int (2 : Int32)), .val (.int (1 : Int32)), .val (.long (own_pk fb lb)), .second, .val (.int ((XT.ushrL (own_pk fb lb) (32 : Int32)).toInt32)), .val (.int la)] [(.int ((own_pk fb lb).toInt32))])) _
    refine XS.istore P27.here hx rfl (hb hby dbn_99) rfl (l' := #[.val (.ref ao), .val (.ref a2), .val (.ref a19), .val (.int (2 : Int32)), .val (.ref a2), .val (.int (2 : Int32)), .val (.int (1 : Int32)), .val (.long (own_pk fb lb)), .second, .val (.int ((XT.ushrL (own_pk fb lb) (32 : Int32)).toInt32)), .val (.int ((own_pk fb lb).toInt32))]) rfl ?_
    show Steps p.tables e below (T27.setTop (mkF m 101 #[.val (.ref ao), .val (.ref a2), .val (.ref a19), .val (.int (2 : Int32)), .val (.ref a2), .val (.int (2 : Int32)), .val (.int (1 : Int32)), .val (.long (own_pk fb lb)), .second, .val (.int ((XT.ushrL (own_pk fb lb) (32 : Int32)).toInt32)), .val (.int ((own_pk fb lb).toInt32))] [])) _
    exact kQ
  show OwnDone p e below _ (T27.setTop (mkF m 101 #[.val (.ref ao), .val (.ref a2), .val (.ref a19), .val (.int (2 : Int32)), .val (.ref a2), .val (.int (2 : Int32)), .val (.int (1 : Int32)), .val (.long (own_pk fb lb)), .second, .val (.int ((XT.ushrL (own_pk fb lb) (32 : Int32)).toInt32)), .val (.int ((own_pk fb lb).toInt32))] []))
  rw [own_pk_f nn.2.2.1 nn.2.2.2, own_pk_l nn.2.2.1 nn.2.2.2]
  show OwnDone p e below _ (T27.setTop (mkF m 101 #[.val (.ref ao), .val (.ref a2), .val (.ref a19), .val (.int (2 : Int32)), .val (.ref a2), .val (.int (2 : Int32)), .val (.int (1 : Int32)), .val (.long (own_pk fb lb)), .second, .val (.int fb), .val (.int lb)] []))
  refine OwnDone.go (A := (T27.setTop (mkF m 102 #[.val (.ref ao), .val (.ref a2), .val (.ref a19), .val (.int (2 : Int32)), .val (.ref a2), .val (.int (2 : Int32)), .val (.int (1 : Int32)), .val (.long (own_pk fb lb)), .second, .val (.int fb), .val (.int lb)] [(.int (2 : Int32))]))) (fun tQ kQ => ?_) ?_
  · refine XS.iloadN P27.here hx rfl (hb hby dbn_101) rfl ?_
    show Steps p.tables e below (T27.setTop (mkF m 102 #[.val (.ref ao), .val (.ref a2), .val (.ref a19), .val (.int (2 : Int32)), .val (.ref a2), .val (.int (2 : Int32)), .val (.int (1 : Int32)), .val (.long (own_pk fb lb)), .second, .val (.int fb), .val (.int lb)] [(.int (2 : Int32))])) _
    exact kQ
  show OwnDone p e below _ (T27.setTop (mkF m 102 #[.val (.ref ao), .val (.ref a2), .val (.ref a19), .val (.int (2 : Int32)), .val (.ref a2), .val (.int (2 : Int32)), .val (.int (1 : Int32)), .val (.long (own_pk fb lb)), .second, .val (.int fb), .val (.int lb)] [(.int (2 : Int32))]))
  refine OwnDone.go (A := (T27.setTop (mkF m 105 #[.val (.ref ao), .val (.ref a2), .val (.ref a19), .val (.int (2 : Int32)), .val (.ref a2), .val (.int (2 : Int32)), .val (.int (1 : Int32)), .val (.long (own_pk fb lb)), .second, .val (.int fb), .val (.int lb)] []))) (fun tQ kQ => XS.ifNo P27.here hx rfl (hb hby dbn_102) rfl (XT.i0_le_f (by decide)) kQ) ?_
  show OwnDone p e below _ (T27.setTop (mkF m 105 #[.val (.ref ao), .val (.ref a2), .val (.ref a19), .val (.int (2 : Int32)), .val (.ref a2), .val (.int (2 : Int32)), .val (.int (1 : Int32)), .val (.long (own_pk fb lb)), .second, .val (.int fb), .val (.int lb)] []))
  refine OwnDone.go (A := (T27.setTop (mkF m 114 #[.val (.ref ao), .val (.ref a2), .val (.ref a19), .val (.int (2 : Int32)), .val (.ref a2), .val (.int (2 : Int32)), .val (.int (1 : Int32)), .val (.long (own_pk fb lb)), .second, .val (.int fb), .val (.int lb)] [(.int (la + (1 : Int32))), (.int fb)]))) (fun tQ kQ => ?_) ?_
  · refine XS.iload P27.here hx rfl (hb hby dbn_105) rfl ?_
    show Steps p.tables e below (T27.setTop (mkF m 107 #[.val (.ref ao), .val (.ref a2), .val (.ref a19), .val (.int (2 : Int32)), .val (.ref a2), .val (.int (2 : Int32)), .val (.int (1 : Int32)), .val (.long (own_pk fb lb)), .second, .val (.int fb), .val (.int lb)] [(.int fb)])) _
    refine XS.aloadN P27.here hx rfl (hb hby dbn_107) rfl rfl ?_
    show Steps p.tables e below (T27.setTop (mkF m 108 #[.val (.ref ao), .val (.ref a2), .val (.ref a19), .val (.int (2 : Int32)), .val (.ref a2), .val (.int (2 : Int32)), .val (.int (1 : Int32)), .val (.long (own_pk fb lb)), .second, .val (.int fb), .val (.int lb)] [(.ref a19), (.int fb)])) _
    refine XS.iloadN P27.here hx rfl (hb hby dbn_108) rfl ?_
    show Steps p.tables e below (T27.setTop (mkF m 109 #[.val (.ref ao), .val (.ref a2), .val (.ref a19), .val (.int (2 : Int32)), .val (.ref a2), .val (.int (2 : Int32)), .val (.int (1 : Int32)), .val (.long (own_pk fb lb)), .second, .val (.int fb), .val (.int lb)] [(.int (2 : Int32)), (.ref a19), (.int fb)])) _
    refine XS.iconst P27.here hx rfl (hb hby dbn_109) ?_
    show Steps p.tables e below (T27.setTop (mkF m 110 #[.val (.ref ao), .val (.ref a2), .val (.ref a19), .val (.int (2 : Int32)), .val (.ref a2), .val (.int (2 : Int32)), .val (.int (1 : Int32)), .val (.long (own_pk fb lb)), .second, .val (.int fb), .val (.int lb)] [(.int (1 : Int32)), (.int (2 : Int32)), (.ref a19), (.int fb)])) _
    refine XS.isub P27.here hx rfl (hb hby dbn_110) rfl ?_
    show Steps p.tables e below (T27.setTop (mkF m 111 #[.val (.ref ao), .val (.ref a2), .val (.ref a19), .val (.int (2 : Int32)), .val (.ref a2), .val (.int (2 : Int32)), .val (.int (1 : Int32)), .val (.long (own_pk fb lb)), .second, .val (.int fb), .val (.int lb)] [(.int (1 : Int32)), (.ref a19), (.int fb)])) _
    refine own_iaload C P27 Y27 (by decide) rfl dbn_111 ?_
    show Steps p.tables e below (T27.setTop (mkF m 112 #[.val (.ref ao), .val (.ref a2), .val (.ref a19), .val (.int (2 : Int32)), .val (.ref a2), .val (.int (2 : Int32)), .val (.int (1 : Int32)), .val (.long (own_pk fb lb)), .second, .val (.int fb), .val (.int lb)] [(.int la), (.int fb)])) _
    refine XS.iconst P27.here hx rfl (hb hby dbn_112) ?_
    show Steps p.tables e below (T27.setTop (mkF m 113 #[.val (.ref ao), .val (.ref a2), .val (.ref a19), .val (.int (2 : Int32)), .val (.ref a2), .val (.int (2 : Int32)), .val (.int (1 : Int32)), .val (.long (own_pk fb lb)), .second, .val (.int fb), .val (.int lb)] [(.int (1 : Int32)), (.int la), (.int fb)])) _
    refine XS.iadd P27.here hx rfl (hb hby dbn_113) rfl ?_
    show Steps p.tables e below (T27.setTop (mkF m 114 #[.val (.ref ao), .val (.ref a2), .val (.ref a19), .val (.int (2 : Int32)), .val (.ref a2), .val (.int (2 : Int32)), .val (.int (1 : Int32)), .val (.long (own_pk fb lb)), .second, .val (.int fb), .val (.int lb)] [(.int (la + (1 : Int32))), (.int fb)])) _
    exact kQ
  show OwnDone p e below _ (T27.setTop (mkF m 114 #[.val (.ref ao), .val (.ref a2), .val (.ref a19), .val (.int (2 : Int32)), .val (.ref a2), .val (.int (2 : Int32)), .val (.int (1 : Int32)), .val (.long (own_pk fb lb)), .second, .val (.int fb), .val (.int lb)] [(.int (la + (1 : Int32))), (.int fb)]))
  refine OwnDone.go (A := (T27.setTop (mkF m 135 #[.val (.ref ao), .val (.ref a2), .val (.ref a19), .val (.int (2 : Int32)), .val (.ref a2), .val (.int (2 : Int32)), .val (.int (1 : Int32)), .val (.long (own_pk fb lb)), .second, .val (.int fb), .val (.int lb)] []))) (fun tQ kQ => XS.icmpYes P27.here hx rfl (pc0 := 114) (pc' := 135) rfl (hb hby dbn_114) rfl (XT.ii_gt_t hm) (by decide) (by decide) kQ) ?_
  show OwnDone p e below _ (T27.setTop (mkF m 135 #[.val (.ref ao), .val (.ref a2), .val (.ref a19), .val (.int (2 : Int32)), .val (.ref a2), .val (.int (2 : Int32)), .val (.int (1 : Int32)), .val (.long (own_pk fb lb)), .second, .val (.int fb), .val (.int lb)] []))
  refine OwnDone.go (A := (T27.setTop (mkF m 139 #[.val (.ref ao), .val (.ref a2), .val (.ref a19), .val (.int (2 : Int32)), .val (.ref a2), .val (.int (2 : Int32)), .val (.int (1 : Int32)), .val (.long (own_pk fb lb)), .second, .val (.int fb), .val (.int lb)] [(.int fb), (.int (2 : Int32)), (.ref a19)]))) (fun tQ kQ => ?_) ?_
  · refine XS.aloadN P27.here hx rfl (hb hby dbn_135) rfl rfl ?_
    show Steps p.tables e below (T27.setTop (mkF m 136 #[.val (.ref ao), .val (.ref a2), .val (.ref a19), .val (.int (2 : Int32)), .val (.ref a2), .val (.int (2 : Int32)), .val (.int (1 : Int32)), .val (.long (own_pk fb lb)), .second, .val (.int fb), .val (.int lb)] [(.ref a19)])) _
    refine XS.iloadN P27.here hx rfl (hb hby dbn_136) rfl ?_
    show Steps p.tables e below (T27.setTop (mkF m 137 #[.val (.ref ao), .val (.ref a2), .val (.ref a19), .val (.int (2 : Int32)), .val (.ref a2), .val (.int (2 : Int32)), .val (.int (1 : Int32)), .val (.long (own_pk fb lb)), .second, .val (.int fb), .val (.int lb)] [(.int (2 : Int32)), (.ref a19)])) _
    refine XS.iload P27.here hx rfl (hb hby dbn_137) rfl ?_
    show Steps p.tables e below (T27.setTop (mkF m 139 #[.val (.ref ao), .val (.ref a2), .val (.ref a19), .val (.int (2 : Int32)), .val (.ref a2), .val (.int (2 : Int32)), .val (.int (1 : Int32)), .val (.long (own_pk fb lb)), .second, .val (.int fb), .val (.int lb)] [(.int fb), (.int (2 : Int32)), (.ref a19)])) _
    exact kQ
  show OwnDone p e below _ (T27.setTop (mkF m 139 #[.val (.ref ao), .val (.ref a2), .val (.ref a19), .val (.int (2 : Int32)), .val (.ref a2), .val (.int (2 : Int32)), .val (.int (1 : Int32)), .val (.long (own_pk fb lb)), .second, .val (.int fb), .val (.int lb)] [(.int fb), (.int (2 : Int32)), (.ref a19)]))
  refine own_iastore C P27 Y27 (by decide) (show ((2 : Int32) : Int32).toNatClampNeg < 4 from by decide) (Or.inr ge_a19) dbn_139 (vs' := [(.int fa), (.int la), (.int fb), (.int (0 : Int32))]) rfl (fun T31 h31 P31 K31 Y31 => ?_)
  have O32_ao := O28_ao.keep K31 (ninS ne_ao_a19 nin0)
  have Y33_b := Y29_b.keep K31 (ninS ne_b_a19 nin0)
  have Y34_a2 := Y30_a2.keep K31 (ninS ne_a2_a19 nin0)
  show OwnDone p e below _ (T31.setTop (mkF m 140 #[.val (.ref ao), .val (.ref a2), .val (.ref a19), .val (.int (2 : Int32)), .val (.ref a2), .val (.int (2 : Int32)), .val (.int (1 : Int32)), .val (.long (own_pk fb lb)), .second, .val (.int fb), .val (.int lb)] []))
  refine OwnDone.go (A := (T31.setTop (mkF m 146 #[.val (.ref ao), .val (.ref a2), .val (.ref a19), .val (.int (2 : Int32)), .val (.ref a2), .val (.int (2 : Int32)), .val (.int (1 : Int32)), .val (.long (own_pk fb lb)), .second, .val (.int fb), .val (.int lb)] [(.int lb), (.int (3 : Int32)), (.ref a19)]))) (fun tQ kQ => ?_) ?_
  · refine XS.aloadN P31.here hx rfl (hb hby dbn_140) rfl rfl ?_
    show Steps p.tables e below (T31.setTop (mkF m 141 #[.val (.ref ao), .val (.ref a2), .val (.ref a19), .val (.int (2 : Int32)), .val (.ref a2), .val (.int (2 : Int32)), .val (.int (1 : Int32)), .val (.long (own_pk fb lb)), .second, .val (.int fb), .val (.int lb)] [(.ref a19)])) _
    refine XS.iloadN P31.here hx rfl (hb hby dbn_141) rfl ?_
    show Steps p.tables e below (T31.setTop (mkF m 142 #[.val (.ref ao), .val (.ref a2), .val (.ref a19), .val (.int (2 : Int32)), .val (.ref a2), .val (.int (2 : Int32)), .val (.int (1 : Int32)), .val (.long (own_pk fb lb)), .second, .val (.int fb), .val (.int lb)] [(.int (2 : Int32)), (.ref a19)])) _
    refine XS.iconst P31.here hx rfl (hb hby dbn_142) ?_
    show Steps p.tables e below (T31.setTop (mkF m 143 #[.val (.ref ao), .val (.ref a2), .val (.ref a19), .val (.int (2 : Int32)), .val (.ref a2), .val (.int (2 : Int32)), .val (.int (1 : Int32)), .val (.long (own_pk fb lb)), .second, .val (.int fb), .val (.int lb)] [(.int (1 : Int32)), (.int (2 : Int32)), (.ref a19)])) _
    refine XS.iadd P31.here hx rfl (hb hby dbn_143) rfl ?_
    show Steps p.tables e below (T31.setTop (mkF m 144 #[.val (.ref ao), .val (.ref a2), .val (.ref a19), .val (.int (2 : Int32)), .val (.ref a2), .val (.int (2 : Int32)), .val (.int (1 : Int32)), .val (.long (own_pk fb lb)), .second, .val (.int fb), .val (.int lb)] [(.int (3 : Int32)), (.ref a19)])) _
    refine XS.iload P31.here hx rfl (hb hby dbn_144) rfl ?_
    show Steps p.tables e below (T31.setTop (mkF m 146 #[.val (.ref ao), .val (.ref a2), .val (.ref a19), .val (.int (2 : Int32)), .val (.ref a2), .val (.int (2 : Int32)), .val (.int (1 : Int32)), .val (.long (own_pk fb lb)), .second, .val (.int fb), .val (.int lb)] [(.int lb), (.int (3 : Int32)), (.ref a19)])) _
    exact kQ
  show OwnDone p e below _ (T31.setTop (mkF m 146 #[.val (.ref ao), .val (.ref a2), .val (.ref a19), .val (.int (2 : Int32)), .val (.ref a2), .val (.int (2 : Int32)), .val (.int (1 : Int32)), .val (.long (own_pk fb lb)), .second, .val (.int fb), .val (.int lb)] [(.int lb), (.int (3 : Int32)), (.ref a19)]))
  refine own_iastore C P31 Y31 (by decide) (show ((3 : Int32) : Int32).toNatClampNeg < 4 from by decide) (Or.inr ge_a19) dbn_146 (vs' := [(.int fa), (.int la), (.int fb), (.int lb)]) rfl (fun T35 h35 P35 K35 Y35 => ?_)
  have O36_ao := O32_ao.keep K35 (ninS ne_ao_a19 nin0)
  have Y37_b := Y33_b.keep K35 (ninS ne_b_a19 nin0)
  have Y38_a2 := Y34_a2.keep K35 (ninS ne_a2_a19 nin0)
  show OwnDone p e below _ (T35.setTop (mkF m 147 #[.val (.ref ao), .val (.ref a2), .val (.ref a19), .val (.int (2 : Int32)), .val (.ref a2), .val (.int (2 : Int32)), .val (.int (1 : Int32)), .val (.long (own_pk fb lb)), .second, .val (.int fb), .val (.int lb)] []))
  refine OwnDone.go (A := (T35.setTop (mkF m 150 #[.val (.ref ao), .val (.ref a2), .val (.ref a19), .val (.int (4 : Int32)), .val (.ref a2), .val (.int (2 : Int32)), .val (.int (1 : Int32)), .val (.long (own_pk fb lb)), .second, .val (.int fb), .val (.int lb)] []))) (fun tQ kQ => ?_) ?_
  · refine XS.iinc P35.here hx rfl (hb hby dbn_147) rfl (l' := #[.val (.ref ao), .val (.ref a2), .val (.ref a19), .val (.int (4 : Int32)), .val (.ref a2), .val (.int (2 : Int32)), .val (.int (1 : Int32)), .val (.long (own_pk fb lb)), .second, .val (.int fb), .val (.int lb)]) rfl ?_
    show Steps p.tables e below (T35.setTop (mkF m 150 #[.val (.ref ao), .val (.ref a2), .val (.ref a19), .val (.int (4 : Int32)), .val (.ref a2), .val (.int (2 : Int32)), .val (.int (1 : Int32)), .val (.long (own_pk fb lb)), .second, .val (.int fb), .val (.int lb)] [])) _
    exact kQ
  show OwnDone p e below _ (T35.setTop (mkF m 150 #[.val (.ref ao), .val (.ref a2), .val (.ref a19), .val (.int (4 : Int32)), .val (.ref a2), .val (.int (2 : Int32)), .val (.int (1 : Int32)), .val (.long (own_pk fb lb)), .second, .val (.int fb), .val (.int lb)] []))
  refine OwnDone.go (A := (T35.setTop (mkF m 78 #[.val (.ref ao), .val (.ref a2), .val (.ref a19), .val (.int (4 : Int32)), .val (.ref a2), .val (.int (2 : Int32)), .val (.int (2 : Int32)), .val (.long (own_pk fb lb)), .second, .val (.int fb), .val (.int lb)] [(.int (2 : Int32)), (.int (2 : Int32))]))) (fun tQ kQ => ?_) ?_
  · refine XS.iinc P35.here hx rfl (hb hby dbn_150) rfl (l' := #[.val (.ref ao), .val (.ref a2), .val (.ref a19), .val (.int (4 : Int32)), .val (.ref a2), .val (.int (2 : Int32)), .val (.int (2 : Int32)), .val (.long (own_pk fb lb)), .second, .val (.int fb), .val (.int lb)]) rfl ?_
    show Steps p.tables e below (T35.setTop (mkF m 153 #[.val (.ref ao), .val (.ref a2), .val (.ref a19), .val (.int (4 : Int32)), .val (.ref a2), .val (.int (2 : Int32)), .val (.int (2 : Int32)), .val (.long (own_pk fb lb)), .second, .val (.int fb), .val (.int lb)] [])) _
    refine XS.goto P35.here hx rfl (pc0 := 153) (pc' := 74) rfl (hb hby dbn_153) (by decide) (by decide) ?_
    show Steps p.tables e below (T35.setTop (mkF m 74 #[.val (.ref ao), .val (.ref a2), .val (.ref a19), .val (.int (4 : Int32)), .val (.ref a2), .val (.int (2 : Int32)), .val (.int (2 : Int32)), .val (.long (own_pk fb lb)), .second, .val (.int fb), .val (.int lb)] [])) _
    refine XS.iload P35.here hx rfl (hb hby dbn_74) rfl ?_
    show Steps p.tables e below (T35.setTop (mkF m 76 #[.val (.ref ao), .val (.ref a2), .val (.ref a19), .val (.int (4 : Int32)), .val (.ref a2), .val (.int (2 : Int32)), .val (.int (2 : Int32)), .val (.long (own_pk fb lb)), .second, .val (.int fb), .val (.int lb)] [(.int (2 : Int32))])) _
    refine XS.iload P35.here hx rfl (hb hby dbn_76) rfl ?_
    show Steps p.tables e below (T35.setTop (mkF m 78 #[.val (.ref ao), .val (.ref a2), .val (.ref a19), .val (.int (4 : Int32)), .val (.ref a2), .val (.int (2 : Int32)), .val (.int (2 : Int32)), .val (.long (own_pk fb lb)), .second, .val (.int fb), .val (.int lb)] [(.int (2 : Int32)), (.int (2 : Int32))])) _
    exact kQ
  show OwnDone p e below _ (T35.setTop (mkF m 78 #[.val (.ref ao), .val (.ref a2), .val (.ref a19), .val (.int (4 : Int32)), .val (.ref a2), .val (.int (2 : Int32)), .val (.int (2 : Int32)), .val (.long (own_pk fb lb)), .second, .val (.int fb), .val (.int lb)] [(.int (2 : Int32)), (.int (2 : Int32))]))
  refine OwnDone.go (A := (T35.setTop (mkF m 156 #[.val (.ref ao), .val (.ref a2), .val (.ref a19), .val (.int (4 : Int32)), .val (.ref a2), .val (.int (2 : Int32)), .val (.int (2 : Int32)), .val (.long (own_pk fb lb)), .second, .val (.int fb), .val (.int lb)] []))) (fun tQ kQ => XS.icmpYes P35.here hx rfl (pc0 := 78) (pc' := 156) rfl (hb hby dbn_78) rfl (XT.ii_ge_t (by decide)) (by decide) (by decide) kQ) ?_
  show OwnDone p e below _ (T35.setTop (mkF m 156 #[.val (.ref ao), .val (.ref a2), .val (.ref a19), .val (.int (4 : Int32)), .val (.ref a2), .val (.int (2 : Int32)), .val (.int (2 : Int32)), .val (.long (own_pk fb lb)), .second, .val (.int fb), .val (.int lb)] []))
  refine own_new (vs := [.null, (.int (0 : Int32)), (.long (0 : Int64)), (.long (0 : Int64))]) C P35 (hw _ (List.mem_of_getElem? (i := 143) rfl)) (hw _ (List.mem_of_getElem? (i := 144) rfl)) (hw _ (List.mem_of_getElem? (i := 145) rfl)) (own_laid4 hw) (by decide +kernel) dbn_156 (by decide) (by decide) (fun T39 h39 a39 ga39 la39 P39 K39 O39 => ?_)
  have ge_a39 : h0.size ≤ a39 := by rw [ga39]; exact P35.keep.1
  have ne_ao_a39 : ao ≠ a39 := by rw [ga39]; exact Nat.ne_of_lt O36_ao.lt
  have ne_b_a39 : b ≠ a39 := by rw [ga39]; exact Nat.ne_of_lt Y37_b.lt
  have ne_a2_a39 : a2 ≠ a39 := by rw [ga39]; exact Nat.ne_of_lt Y38_a2.lt
  have ne_a19_a39 : a19 ≠ a39 := by rw [ga39]; exact Nat.ne_of_lt Y35.lt
  have O40_ao := O36_ao.keep K39 nin0
  have Y41_b := Y37_b.keep K39 nin0
  have Y42_a2 := Y38_a2.keep K39 nin0
  have Y43_a19 := Y35.keep K39 nin0
  show OwnDone p e below _ (T39.setTop (mkF m 159 #[.val (.ref ao), .val (.ref a2), .val (.ref a19), .val (.int (4 : Int32)), .val (.ref a2), .val (.int (2 : Int32)), .val (.int (2 : Int32)), .val (.long (own_pk fb lb)), .second, .val (.int fb), .val (.int lb)] [(.ref a39)]))
  refine OwnDone.go (A := (T39.setTop (mkF m 162 #[.val (.ref ao), .val (.ref a2), .val (.ref a19), .val (.int (4 : Int32)), .val (.ref a2), .val (.int (2 : Int32)), .val (.int (2 : Int32)), .val (.long (own_pk fb lb)), .second, .val (.int fb), .val (.int lb)] [(.int (4 : Int32)), (.ref a19), (.ref a39), (.ref a39)]))) (fun tQ kQ => ?_) ?_
  · refine XS.dup P39.here hx rfl (hb hby dbn_159) rfl rfl ?_
    show Steps p.tables e below (T39.setTop (mkF m 160 #[.val (.ref ao), .val (.ref a2), .val (.ref a19), .val (.int (4 : Int32)), .val (.ref a2), .val (.int (2 : Int32)), .val (.int (2 : Int32)), .val (.long (own_pk fb lb)), .second, .val (.int fb), .val (.int lb)] [(.ref a39), (.ref a39)])) _
    refine XS.aloadN P39.here hx rfl (hb hby dbn_160) rfl rfl ?_
    show Steps p.tables e below (T39.setTop (mkF m 161 #[.val (.ref ao), .val (.ref a2), .val (.ref a19), .val (.int (4 : Int32)), .val (.ref a2), .val (.int (2 : Int32)), .val (.int (2 : Int32)), .val (.long (own_pk fb lb)), .second, .val (.int fb), .val (.int lb)] [(.ref a19), (.ref a39), (.ref a39)])) _
    refine XS.iloadN P39.here hx rfl (hb hby dbn_161) rfl ?_
    show Steps p.tables e below (T39.setTop (mkF m 162 #[.val (.ref ao), .val (.ref a2), .val (.ref a19), .val (.int (4 : Int32)), .val (.ref a2), .val (.int (2 : Int32)), .val (.int (2 : Int32)), .val (.long (own_pk fb lb)), .second, .val (.int fb), .val (.int lb)] [(.int (4 : Int32)), (.ref a19), (.ref a39), (.ref a39)])) _
    exact kQ
  show OwnDone p e below _ (T39.setTop (mkF m 162 #[.val (.ref ao), .val (.ref a2), .val (.ref a19), .val (.int (4 : Int32)), .val (.ref a2), .val (.int (2 : Int32)), .val (.int (2 : Int32)), .val (.long (own_pk fb lb)), .second, .val (.int fb), .val (.int lb)] [(.int (4 : Int32)), (.ref a19), (.ref a39), (.ref a39)]))
  refine own_callS (y := (⟨"java/util/Arrays", "copyOf", "([II)[I"⟩ : MethodName)) C P39 (hw _ (List.mem_of_getElem? (i := 146) rfl)) (hw _ (List.mem_of_getElem? (i := 147) rfl)) (hw _ (List.mem_of_getElem? (i := 130) rfl)) (hw _ (List.mem_of_getElem? (i := 148) rfl)) (by decide) (rmco4 l Z a0 hw a19 k19 fa la fb lb h39 P39.old Y43_a19 N19) (as := [(.ref a19), (.int (4 : Int32))]) (rest := [(.ref a39), (.ref a39)]) pd_15 rfl rfl (wd := 2) rfl rfl dbn_162 all0 (by decide) (by decide) (by decide) (by decide) (fun T44 h44 v44 P44 K44 hQ44 => ?_)
  obtain ⟨rc44, kc44, rfl, Y44, gr44, N44⟩ := hQ44
  have O45_ao := O40_ao.keep K44 nin0
  have O46_a39 := O39.keep K44 nin0
  have Y47_b := Y41_b.keep K44 nin0
  have Y48_a2 := Y42_a2.keep K44 nin0
  have Y49_a19 := Y43_a19.keep K44 nin0
  have ge_rc44 : h0.size ≤ rc44 := Nat.le_trans P39.keep.1 gr44
  have ne_ao_rc44 : ao ≠ rc44 := Nat.ne_of_lt (Nat.lt_of_lt_of_le O40_ao.lt gr44)
  have ne_a39_rc44 : a39 ≠ rc44 := Nat.ne_of_lt (Nat.lt_of_lt_of_le O39.lt gr44)
  have ne_b_rc44 : b ≠ rc44 := Nat.ne_of_lt (Nat.lt_of_lt_of_le Y41_b.lt gr44)
  have ne_a2_rc44 : a2 ≠ rc44 := Nat.ne_of_lt (Nat.lt_of_lt_of_le Y42_a2.lt gr44)
  have ne_a19_rc44 : a19 ≠ rc44 := Nat.ne_of_lt (Nat.lt_of_lt_of_le Y43_a19.lt gr44)
  show OwnDone p e below _ (T44.setTop (mkF m 165 #[.val (.ref ao), .val (.ref a2), .val (.ref a19), .val (.int (4 : Int32)), .val (.ref a2), .val (.int (2 : Int32)), .val (.int (2 : Int32)), .val (.long (own_pk fb lb)), .second, .val (.int fb), .val (.int lb)] [(.ref rc44), (.ref a39), (.ref a39)]))
  refine own_callIN (y := (⟨"com/example/bounded_array/boundedarray/regex/CodePointSet", "<init>", "([I)V"⟩ : MethodName)) C P44 rfl (hw _ (List.mem_of_getElem? (i := 154) rfl)) (hw _ (List.mem_of_getElem? (i := 155) rfl)) (hw _ (List.mem_of_getElem? (i := 145) rfl)) (hw _ (List.mem_of_getElem? (i := 156) rfl)) (by decide) (rmci4 l Z a0 hw a39 rc44 kc44 fa la fb lb h44 P44.old (Nat.le_trans hE.1 ge_a39) O46_a39 Y44 N44 ne_a39_rc44) (as := [(.ref rc44)]) (rest := [(.ref a39)]) pd_16 rfl rfl (wd := 1) rfl rfl dbn_165 (allS (Or.inr ge_a39) all0) (by decide) (by decide) (by decide) (by decide) (fun T50 h50 v50 P50 K50 hQ50 => ?_)
  obtain ⟨rfl, hs50, lo50, hi50, O50⟩ := hQ50
  have O51_ao := O45_ao.keep K50 (ninS ne_ao_a39 nin0)
  have Y52_b := Y47_b.keep K50 (ninS ne_b_a39 nin0)
  have Y53_a2 := Y48_a2.keep K50 (ninS ne_a2_a39 nin0)
  have Y54_a19 := Y49_a19.keep K50 (ninS ne_a19_a39 nin0)
  have Y55_rc44 := Y44.keep K50 (ninS (Ne.symm ne_a39_rc44) nin0)
  show OwnDone p e below _ (T50.setTop (mkF m 168 #[.val (.ref ao), .val (.ref a2), .val (.ref a19), .val (.int (4 : Int32)), .val (.ref a2), .val (.int (2 : Int32)), .val (.int (2 : Int32)), .val (.long (own_pk fb lb)), .second, .val (.int fb), .val (.int lb)] [(.ref a39)]))
  refine own_retA C P50 rfl rfl dbn_168 (by decide) (by decide) ⟨_, _, _, _, _, _, rfl, O50, Y55_rc44⟩
theorem dbm_0 : decode prog_13_method_5_code 0 = .ok (.aload_n 0, 1) := by decide +kernel
theorem dbm_1 : decode prog_13_method_5_code 1 = .ok (.getfield 30, 3) := by decide +kernel
theorem dbm_4 : decode prog_13_method_5_code 4 = .ok (.iconst 2, 1) := by decide +kernel
theorem dbm_5 : decode prog_13_method_5_code 5 = .ok (.idiv, 1) := by decide +kernel
theorem dbm_6 : decode prog_13_method_5_code 6 = .ok (.newarray .long, 2) := by decide +kernel
theorem dbm_8 : decode prog_13_method_5_code 8 = .ok (.astore_n 1, 1) := by decide +kernel
theorem dbm_9 : decode prog_13_method_5_code 9 = .ok (.iconst 0, 1) := by decide +kernel
theorem dbm_10 : decode prog_13_method_5_code 10 = .ok (.istore_n 2, 1) := by decide +kernel
theorem dbm_11 : decode prog_13_method_5_code 11 = .ok (.iload_n 2, 1) := by decide +kernel
theorem dbm_12 : decode prog_13_method_5_code 12 = .ok (.aload_n 1, 1) := by decide +kernel
theorem dbm_13 : decode prog_13_method_5_code 13 = .ok (.arraylength, 1) := by decide +kernel
theorem dbm_14 : decode prog_13_method_5_code 14 = .ok (.if_icmp .ge 36, 3) := by decide +kernel
theorem dbm_17 : decode prog_13_method_5_code 17 = .ok (.aload_n 1, 1) := by decide +kernel
theorem dbm_18 : decode prog_13_method_5_code 18 = .ok (.iload_n 2, 1) := by decide +kernel
theorem dbm_19 : decode prog_13_method_5_code 19 = .ok (.aload_n 0, 1) := by decide +kernel
theorem dbm_20 : decode prog_13_method_5_code 20 = .ok (.getfield 7, 3) := by decide +kernel
theorem dbm_23 : decode prog_13_method_5_code 23 = .ok (.iconst 2, 1) := by decide +kernel
theorem dbm_24 : decode prog_13_method_5_code 24 = .ok (.iload_n 2, 1) := by decide +kernel
theorem dbm_25 : decode prog_13_method_5_code 25 = .ok (.imul, 1) := by decide +kernel
theorem dbm_26 : decode prog_13_method_5_code 26 = .ok (.iaload, 1) := by decide +kernel
theorem dbm_27 : decode prog_13_method_5_code 27 = .ok (.i2l, 1) := by decide +kernel
theorem dbm_28 : decode prog_13_method_5_code 28 = .ok (.bipush 32, 2) := by decide +kernel
theorem dbm_30 : decode prog_13_method_5_code 30 = .ok (.lshl, 1) := by decide +kernel
theorem dbm_31 : decode prog_13_method_5_code 31 = .ok (.aload_n 0, 1) := by decide +kernel
theorem dbm_32 : decode prog_13_method_5_code 32 = .ok (.getfield 7, 3) := by decide +kernel
theorem dbm_35 : decode prog_13_method_5_code 35 = .ok (.iconst 2, 1) := by decide +kernel
theorem dbm_36 : decode prog_13_method_5_code 36 = .ok (.iload_n 2, 1) := by decide +kernel
theorem dbm_37 : decode prog_13_method_5_code 37 = .ok (.imul, 1) := by decide +kernel
theorem dbm_38 : decode prog_13_method_5_code 38 = .ok (.iconst 1, 1) := by decide +kernel
theorem dbm_39 : decode prog_13_method_5_code 39 = .ok (.iadd, 1) := by decide +kernel
theorem dbm_40 : decode prog_13_method_5_code 40 = .ok (.iaload, 1) := by decide +kernel
theorem dbm_41 : decode prog_13_method_5_code 41 = .ok (.i2l, 1) := by decide +kernel
theorem dbm_42 : decode prog_13_method_5_code 42 = .ok (.lor, 1) := by decide +kernel
theorem dbm_43 : decode prog_13_method_5_code 43 = .ok (.lastore, 1) := by decide +kernel
theorem dbm_44 : decode prog_13_method_5_code 44 = .ok (.iinc 2 1, 3) := by decide +kernel
theorem dbm_47 : decode prog_13_method_5_code 47 = .ok (.goto (-36), 3) := by decide +kernel
theorem dbm_50 : decode prog_13_method_5_code 50 = .ok (.aload_n 1, 1) := by decide +kernel
theorem dbm_51 : decode prog_13_method_5_code 51 = .ok (.invokestatic 61, 3) := by decide +kernel
theorem dbm_54 : decode prog_13_method_5_code 54 = .ok (.aload_n 0, 1) := by decide +kernel
theorem dbm_55 : decode prog_13_method_5_code 55 = .ok (.getfield 30, 3) := by decide +kernel
theorem dbm_58 : decode prog_13_method_5_code 58 = .ok (.newarray .int, 2) := by decide +kernel
theorem dbm_60 : decode prog_13_method_5_code 60 = .ok (.astore_n 2, 1) := by decide +kernel
theorem dbm_61 : decode prog_13_method_5_code 61 = .ok (.iconst 0, 1) := by decide +kernel
theorem dbm_62 : decode prog_13_method_5_code 62 = .ok (.istore_n 3, 1) := by decide +kernel
theorem dbm_63 : decode prog_13_method_5_code 63 = .ok (.aload_n 1, 1) := by decide +kernel
theorem dbm_64 : decode prog_13_method_5_code 64 = .ok (.astore 4, 2) := by decide +kernel
theorem dbm_66 : decode prog_13_method_5_code 66 = .ok (.aload 4, 2) := by decide +kernel
theorem dbm_68 : decode prog_13_method_5_code 68 = .ok (.arraylength, 1) := by decide +kernel
theorem dbm_69 : decode prog_13_method_5_code 69 = .ok (.istore 5, 2) := by decide +kernel
theorem dbm_71 : decode prog_13_method_5_code 71 = .ok (.iconst 0, 1) := by decide +kernel
theorem dbm_72 : decode prog_13_method_5_code 72 = .ok (.istore 6, 2) := by decide +kernel
theorem dbm_74 : decode prog_13_method_5_code 74 = .ok (.iload 6, 2) := by decide +kernel
theorem dbm_76 : decode prog_13_method_5_code 76 = .ok (.iload 5, 2) := by decide +kernel
theorem dbm_78 : decode prog_13_method_5_code 78 = .ok (.if_icmp .ge 78, 3) := by decide +kernel
theorem dbm_81 : decode prog_13_method_5_code 81 = .ok (.aload 4, 2) := by decide +kernel
theorem dbm_83 : decode prog_13_method_5_code 83 = .ok (.iload 6, 2) := by decide +kernel
theorem dbm_85 : decode prog_13_method_5_code 85 = .ok (.laload, 1) := by decide +kernel
theorem dbm_86 : decode prog_13_method_5_code 86 = .ok (.lstore 7, 2) := by decide +kernel
theorem dbm_88 : decode prog_13_method_5_code 88 = .ok (.lload 7, 2) := by decide +kernel
theorem dbm_90 : decode prog_13_method_5_code 90 = .ok (.bipush 32, 2) := by decide +kernel
theorem dbm_92 : decode prog_13_method_5_code 92 = .ok (.lushr, 1) := by decide +kernel
theorem dbm_93 : decode prog_13_method_5_code 93 = .ok (.l2i, 1) := by decide +kernel
theorem dbm_94 : decode prog_13_method_5_code 94 = .ok (.istore 9, 2) := by decide +kernel
theorem dbm_96 : decode prog_13_method_5_code 96 = .ok (.lload 7, 2) := by decide +kernel
theorem dbm_98 : decode prog_13_method_5_code 98 = .ok (.l2i, 1) := by decide +kernel
theorem dbm_99 : decode prog_13_method_5_code 99 = .ok (.istore 10, 2) := by decide +kernel
theorem dbm_101 : decode prog_13_method_5_code 101 = .ok (.iload_n 3, 1) := by decide +kernel
theorem dbm_102 : decode prog_13_method_5_code 102 = .ok (.ifCond .le 33, 3) := by decide +kernel
theorem dbm_105 : decode prog_13_method_5_code 105 = .ok (.iload 9, 2) := by decide +kernel
theorem dbm_107 : decode prog_13_method_5_code 107 = .ok (.aload_n 2, 1) := by decide +kernel
theorem dbm_108 : decode prog_13_method_5_code 108 = .ok (.iload_n 3, 1) := by decide +kernel
theorem dbm_109 : decode prog_13_method_5_code 109 = .ok (.iconst 1, 1) := by decide +kernel
theorem dbm_110 : decode prog_13_method_5_code 110 = .ok (.isub, 1) := by decide +kernel
theorem dbm_111 : decode prog_13_method_5_code 111 = .ok (.iaload, 1) := by decide +kernel
theorem dbm_112 : decode prog_13_method_5_code 112 = .ok (.iconst 1, 1) := by decide +kernel
theorem dbm_113 : decode prog_13_method_5_code 113 = .ok (.iadd, 1) := by decide +kernel
theorem dbm_114 : decode prog_13_method_5_code 114 = .ok (.if_icmp .gt 21, 3) := by decide +kernel
theorem dbm_117 : decode prog_13_method_5_code 117 = .ok (.aload_n 2, 1) := by decide +kernel
theorem dbm_118 : decode prog_13_method_5_code 118 = .ok (.iload_n 3, 1) := by decide +kernel
theorem dbm_119 : decode prog_13_method_5_code 119 = .ok (.iconst 1, 1) := by decide +kernel
theorem dbm_120 : decode prog_13_method_5_code 120 = .ok (.isub, 1) := by decide +kernel
theorem dbm_121 : decode prog_13_method_5_code 121 = .ok (.aload_n 2, 1) := by decide +kernel
theorem dbm_122 : decode prog_13_method_5_code 122 = .ok (.iload_n 3, 1) := by decide +kernel
theorem dbm_123 : decode prog_13_method_5_code 123 = .ok (.iconst 1, 1) := by decide +kernel
theorem dbm_124 : decode prog_13_method_5_code 124 = .ok (.isub, 1) := by decide +kernel
theorem dbm_125 : decode prog_13_method_5_code 125 = .ok (.iaload, 1) := by decide +kernel
theorem dbm_126 : decode prog_13_method_5_code 126 = .ok (.iload 10, 2) := by decide +kernel
theorem dbm_128 : decode prog_13_method_5_code 128 = .ok (.invokestatic 49, 3) := by decide +kernel
theorem dbm_131 : decode prog_13_method_5_code 131 = .ok (.iastore, 1) := by decide +kernel
theorem dbm_132 : decode prog_13_method_5_code 132 = .ok (.goto 18, 3) := by decide +kernel
theorem dbm_135 : decode prog_13_method_5_code 135 = .ok (.aload_n 2, 1) := by decide +kernel
theorem dbm_136 : decode prog_13_method_5_code 136 = .ok (.iload_n 3, 1) := by decide +kernel
theorem dbm_137 : decode prog_13_method_5_code 137 = .ok (.iload 9, 2) := by decide +kernel
theorem dbm_139 : decode prog_13_method_5_code 139 = .ok (.iastore, 1) := by decide +kernel
theorem dbm_140 : decode prog_13_method_5_code 140 = .ok (.aload_n 2, 1) := by decide +kernel
theorem dbm_141 : decode prog_13_method_5_code 141 = .ok (.iload_n 3, 1) := by decide +kernel
theorem dbm_142 : decode prog_13_method_5_code 142 = .ok (.iconst 1, 1) := by decide +kernel
theorem dbm_143 : decode prog_13_method_5_code 143 = .ok (.iadd, 1) := by decide +kernel
theorem dbm_144 : decode prog_13_method_5_code 144 = .ok (.iload 10, 2) := by decide +kernel
theorem dbm_146 : decode prog_13_method_5_code 146 = .ok (.iastore, 1) := by decide +kernel
theorem dbm_147 : decode prog_13_method_5_code 147 = .ok (.iinc 3 2, 3) := by decide +kernel
theorem dbm_150 : decode prog_13_method_5_code 150 = .ok (.iinc 6 1, 3) := by decide +kernel
theorem dbm_153 : decode prog_13_method_5_code 153 = .ok (.goto (-79), 3) := by decide +kernel
theorem dbm_156 : decode prog_13_method_5_code 156 = .ok (.new 41, 3) := by decide +kernel
theorem dbm_159 : decode prog_13_method_5_code 159 = .ok (.dup, 1) := by decide +kernel
theorem dbm_160 : decode prog_13_method_5_code 160 = .ok (.aload_n 2, 1) := by decide +kernel
theorem dbm_161 : decode prog_13_method_5_code 161 = .ok (.iload_n 3, 1) := by decide +kernel
theorem dbm_162 : decode prog_13_method_5_code 162 = .ok (.invokestatic 55, 3) := by decide +kernel
theorem dbm_165 : decode prog_13_method_5_code 165 = .ok (.invokespecial 65, 3) := by decide +kernel
theorem dbm_168 : decode prog_13_method_5_code 168 = .ok (.areturn, 1) := by decide +kernel
theorem pnbm : plainName "com/example/bounded_array/boundedarray/regex/CodePointSet$Builder" = true := by first | (simp [plainName, overriddenIn]; done) | decide +kernel
theorem efbm (m : MethodId) (ao : Addr)  : entryFrame m #[(.ref ao)] 11 = mkF m 0 #[.val (.ref ao), .unset, .unset, .unset, .unset, .unset, .unset, .unset, .unset, .unset, .unset] [] := by first | (simp [entryFrame, mkF, argsToLocals, Value.category]; done) | rfl
set_option maxRecDepth 65536 in
set_option maxHeartbeats 40000000 in
theorem rmbm (l : Launch) (Z : State) (a0 : Array Value) (hw : ∀ d ∈ tables_1, d.before a0 Z = true) (ao : Addr) (b sw : Addr) (k : ClassId) (f1 l1 f2 l2 fa la fb lb : Int32) (h0 : Heap) (hE : Ext Z.heap h0)  (Oa : OwnObj Z h0 ao "com/example/bounded_array/boundedarray/regex/CodePointSet$Builder" own_lay3 [(.ref b), (.ref sw), (.int (4 : Int32))]) (Ya : OwnAry Z h0 b k .int [(.int f1), (.int l1), (.int f2), (.int l2), (.int (0 : Int32)), (.int (0 : Int32)), (.int (0 : Int32)), (.int (0 : Int32)), (.int (0 : Int32)), (.int (0 : Int32)), (.int (0 : Int32)), (.int (0 : Int32)), (.int (0 : Int32)), (.int (0 : Int32)), (.int (0 : Int32)), (.int (0 : Int32))]) (nba : b ≠ ao) (hp : own_Nn f1 l1 f2 l2) (hs : own_Srt f1 l1 f2 l2 fa la fb lb) (hm : ¬ la + (1 : Int32) < fb) :
    OwnMeets l (⟨"com/example/bounded_array/boundedarray/regex/CodePointSet$Builder", "build", "()Lcom/example/bounded_array/boundedarray/regex/CodePointSet;"⟩ : MethodName) prog_13_method_5_code 11 (some (.object "com/example/bounded_array/boundedarray/regex/CodePointSet")) ({ frames := 4, cells := 4, slots := 13, locals := 84 } : Room) Z [] #[(.ref ao)] h0 (fun v h => ∃ c ra k' hs lo hi r , v = some (.ref c) ∧ OwnObj Z h c "com/example/bounded_array/boundedarray/regex/CodePointSet" own_lay4 [(.ref ra), (.int hs), (.long lo), (.long hi)] ∧ OwnAry Z h ra k' .int [(.int fa), (.int r)] ∧ (la < lb ∧ r = lb ∨ ¬ la < lb ∧ r = la)) := by
  refine OwnMeets.of (plainFor_of_name pnbm) hE all0 ?_
  intro p e s m below meth c T C P
  have hx := C.1
  have hby := C.2.2.2.2.1
  rw [show entryFrame m #[(.ref ao)] 11 = _ from efbm m ao]
  have nn := own_srtN hp hs
  show OwnDone p e below _ (T.setTop (mkF m 0 #[.val (.ref ao), .unset, .unset, .unset, .unset, .unset, .unset, .unset, .unset, .unset, .unset] []))
  refine OwnDone.go (A := (T.setTop (mkF m 1 #[.val (.ref ao), .unset, .unset, .unset, .unset, .unset, .unset, .unset, .unset, .unset, .unset] [(.ref ao)]))) (fun tQ kQ => ?_) ?_
  · refine XS.aloadN P.here hx rfl (hb hby dbm_0) rfl rfl ?_
    show Steps p.tables e below (T.setTop (mkF m 1 #[.val (.ref ao), .unset, .unset, .unset, .unset, .unset, .unset, .unset, .unset, .unset, .unset] [(.ref ao)])) _
    exact kQ
  show OwnDone p e below _ (T.setTop (mkF m 1 #[.val (.ref ao), .unset, .unset, .unset, .unset, .unset, .unset, .unset, .unset, .unset, .unset] [(.ref ao)]))
  refine own_getF C P (host := "") (Or.inl (hw _ (List.mem_of_getElem? (i := 120) rfl))) Via.refl (Oa.2 2 _ _ _ _ rfl rfl) dbm_1 (fun T1 P1 => ?_)
  show OwnDone p e below _ (T1.setTop (mkF m 4 #[.val (.ref ao), .unset, .unset, .unset, .unset, .unset, .unset, .unset, .unset, .unset, .unset] [(.int (4 : Int32))]))
  refine OwnDone.go (A := (T1.setTop (mkF m 6 #[.val (.ref ao), .unset, .unset, .unset, .unset, .unset, .unset, .unset, .unset, .unset, .unset] [(.int (2 : Int32))]))) (fun tQ kQ => ?_) ?_
  · refine XS.iconst P1.here hx rfl (hb hby dbm_4) ?_
    show Steps p.tables e below (T1.setTop (mkF m 5 #[.val (.ref ao), .unset, .unset, .unset, .unset, .unset, .unset, .unset, .unset, .unset, .unset] [(.int (2 : Int32)), (.int (4 : Int32))])) _
    refine XS.idiv P1.here hx rfl (hb hby dbm_5) rfl (by decide) ?_
    show Steps p.tables e below (T1.setTop (mkF m 6 #[.val (.ref ao), .unset, .unset, .unset, .unset, .unset, .unset, .unset, .unset, .unset, .unset] [(.int (2 : Int32))])) _
    exact kQ
  show OwnDone p e below _ (T1.setTop (mkF m 6 #[.val (.ref ao), .unset, .unset, .unset, .unset, .unset, .unset, .unset, .unset, .unset, .unset] [(.int (2 : Int32))]))
  refine own_newP (aty := .long) (n := (2 : Int32)) (cap := 2) (vs := [(.long (0 : Int64)), (.long (0 : Int64))]) C P1 (hw _ (List.mem_of_getElem? (i := 127) rfl)) dbm_6 (by decide) (by decide) (by decide) (by decide +kernel) rfl (by decide) (by decide) (fun T2 h2 a2 k2 ga2 la2 P2 K2 Y2 N2 => ?_)
  have ge_a2 : h0.size ≤ a2 := by rw [ga2]; exact P1.keep.1
  have ne_ao_a2 : ao ≠ a2 := by rw [ga2]; exact Nat.ne_of_lt Oa.lt
  have ne_b_a2 : b ≠ a2 := by rw [ga2]; exact Nat.ne_of_lt Ya.lt
  have O3_ao := Oa.keep K2 nin0
  have Y4_b := Ya.keep K2 nin0
  have Y2 : OwnAry Z h2 a2 k2 .long [(.long (0 : Int64)), (.long (0 : Int64))] := Y2
  show OwnDone p e below _ (T2.setTop (mkF m 8 #[.val (.ref ao), .unset, .unset, .unset, .unset, .unset, .unset, .unset, .unset, .unset, .unset] [(.ref a2)]))
  refine OwnDone.go (A := (T2.setTop (mkF m 14 #[.val (.ref ao), .val (.ref a2), .val (.int (0 : Int32)), .unset, .unset, .unset, .unset, .unset, .unset, .unset, .unset] [(.int (2 : Int32)), (.int (0 : Int32))]))) (fun tQ kQ => ?_) ?_
  · refine XS.astoreN P2.here hx rfl (hb hby dbm_8) rfl rfl (l' := #[.val (.ref ao), .val (.ref a2), .unset, .unset, .unset, .unset, .unset, .unset, .unset, .unset, .unset]) rfl ?_
    show Steps p.tables e below (T2.setTop (mkF m 9 #[.val (.ref ao), .val (.ref a2), .unset, .unset, .unset, .unset, .unset, .unset, .unset, .unset, .unset] [])) _
    refine XS.iconst P2.here hx rfl (hb hby dbm_9) ?_
    show Steps p.tables e below (T2.setTop (mkF m 10 #[.val (.ref ao), .val (.ref a2), .unset, .unset, .unset, .unset, .unset, .unset, .unset, .unset, .unset] [(.int (0 : Int32))])) _
    refine XS.istoreN P2.here hx rfl (hb hby dbm_10) rfl (l' := #[.val (.ref ao), .val (.ref a2), .val (.int (0 : Int32)), .unset, .unset, .unset, .unset, .unset, .unset, .unset, .unset]) rfl ?_
    show Steps p.tables e below (T2.setTop (mkF m 11 #[.val (.ref ao), .val (.ref a2), .val (.int (0 : Int32)), .unset, .unset, .unset, .unset, .unset, .unset, .unset, .unset] [])) _
    refine XS.iloadN P2.here hx rfl (hb hby dbm_11) rfl ?_
    show Steps p.tables e below (T2.setTop (mkF m 12 #[.val (.ref ao), .val (.ref a2), .val (.int (0 : Int32)), .unset, .unset, .unset, .unset, .unset, .unset, .unset, .unset] [(.int (0 : Int32))])) _
    refine XS.aloadN P2.here hx rfl (hb hby dbm_12) rfl rfl ?_
    show Steps p.tables e below (T2.setTop (mkF m 13 #[.val (.ref ao), .val (.ref a2), .val (.int (0 : Int32)), .unset, .unset, .unset, .unset, .unset, .unset, .unset, .unset] [(.ref a2), (.int (0 : Int32))])) _
    refine own_alen C P2 Y2 dbm_13 ?_
    show Steps p.tables e below (T2.setTop (mkF m 14 #[.val (.ref ao), .val (.ref a2), .val (.int (0 : Int32)), .unset, .unset, .unset, .unset, .unset, .unset, .unset, .unset] [(.int (2 : Int32)), (.int (0 : Int32))])) _
    exact kQ
  show OwnDone p e below _ (T2.setTop (mkF m 14 #[.val (.ref ao), .val (.ref a2), .val (.int (0 : Int32)), .unset, .unset, .unset, .unset, .unset, .unset, .unset, .unset] [(.int (2 : Int32)), (.int (0 : Int32))]))
  refine OwnDone.go (A := (T2.setTop (mkF m 17 #[.val (.ref ao), .val (.ref a2), .val (.int (0 : Int32)), .unset, .unset, .unset, .unset, .unset, .unset, .unset, .unset] []))) (fun tQ kQ => XS.icmpNo P2.here hx rfl (hb hby dbm_14) rfl (XT.ii_ge_f (by decide)) kQ) ?_
  show OwnDone p e below _ (T2.setTop (mkF m 17 #[.val (.ref ao), .val (.ref a2), .val (.int (0 : Int32)), .unset, .unset, .unset, .unset, .unset, .unset, .unset, .unset] []))
  refine OwnDone.go (A := (T2.setTop (mkF m 20 #[.val (.ref ao), .val (.ref a2), .val (.int (0 : Int32)), .unset, .unset, .unset, .unset, .unset, .unset, .unset, .unset] [(.ref ao), (.int (0 : Int32)), (.ref a2)]))) (fun tQ kQ => ?_) ?_
  · refine XS.aloadN P2.here hx rfl (hb hby dbm_17) rfl rfl ?_
    show Steps p.tables e below (T2.setTop (mkF m 18 #[.val (.ref ao), .val (.ref a2), .val (.int (0 : Int32)), .unset, .unset, .unset, .unset, .unset, .unset, .unset, .unset] [(.ref a2)])) _
    refine XS.iloadN P2.here hx rfl (hb hby dbm_18) rfl ?_
    show Steps p.tables e below (T2.setTop (mkF m 19 #[.val (.ref ao), .val (.ref a2), .val (.int (0 : Int32)), .unset, .unset, .unset, .unset, .unset, .unset, .unset, .unset] [(.int (0 : Int32)), (.ref a2)])) _
    refine XS.aloadN P2.here hx rfl (hb hby dbm_19) rfl rfl ?_
    show Steps p.tables e below (T2.setTop (mkF m 20 #[.val (.ref ao), .val (.ref a2), .val (.int (0 : Int32)), .unset, .unset, .unset, .unset, .unset, .unset, .unset, .unset] [(.ref ao), (.int (0 : Int32)), (.ref a2)])) _
    exact kQ
  show OwnDone p e below _ (T2.setTop (mkF m 20 #[.val (.ref ao), .val (.ref a2), .val (.int (0 : Int32)), .unset, .unset, .unset, .unset, .unset, .unset, .unset, .unset] [(.ref ao), (.int (0 : Int32)), (.ref a2)]))
  refine own_getF C P2 (host := "") (Or.inl (hw _ (List.mem_of_getElem? (i := 23) rfl))) Via.refl (O3_ao.2 0 _ _ _ _ rfl rfl) dbm_20 (fun T5 P5 => ?_)
  show OwnDone p e below _ (T5.setTop (mkF m 23 #[.val (.ref ao), .val (.ref a2), .val (.int (0 : Int32)), .unset, .unset, .unset, .unset, .unset, .unset, .unset, .unset] [(.ref b), (.int (0 : Int32)), (.ref a2)]))
  refine OwnDone.go (A := (T5.setTop (mkF m 32 #[.val (.ref ao), .val (.ref a2), .val (.int (0 : Int32)), .unset, .unset, .unset, .unset, .unset, .unset, .unset, .unset] [(.ref ao), (.long ((f1.toInt64) <<< (((32 : Int32)).toInt64 &&& 63))), (.int (0 : Int32)), (.ref a2)]))) (fun tQ kQ => ?_) ?_
  · refine XS.iconst P5.here hx rfl (hb hby dbm_23) ?_
    show Steps p.tables e below (T5.setTop (mkF m 24 #[.val (.ref ao), .val (.ref a2), .val (.int (0 : Int32)), .unset, .unset, .unset, .unset, .unset, .unset, .unset, .unset] [(.int (2 : Int32)), (.ref b), (.int (0 : Int32)), (.ref a2)])) _
    refine XS.iloadN P5.here hx rfl (hb hby dbm_24) rfl ?_
    show Steps p.tables e below (T5.setTop (mkF m 25 #[.val (.ref ao), .val (.ref a2), .val (.int (0 : Int32)), .unset, .unset, .unset, .unset, .unset, .unset, .unset, .unset] [(.int (0 : Int32)), (.int (2 : Int32)), (.ref b), (.int (0 : Int32)), (.ref a2)])) _
    refine XS.imul P5.here hx rfl (hb hby dbm_25) rfl ?_
    show Steps p.tables e below (T5.setTop (mkF m 26 #[.val (.ref ao), .val (.ref a2), .val (.int (0 : Int32)), .unset, .unset, .unset, .unset, .unset, .unset, .unset, .unset] [(.int (0 : Int32)), (.ref b), (.int (0 : Int32)), (.ref a2)])) _
    refine own_iaload C P5 Y4_b (by decide) rfl dbm_26 ?_
    show Steps p.tables e below (T5.setTop (mkF m 27 #[.val (.ref ao), .val (.ref a2), .val (.int (0 : Int32)), .unset, .unset, .unset, .unset, .unset, .unset, .unset, .unset] [(.int f1), (.int (0 : Int32)), (.ref a2)])) _
    refine XT.i2l P5.here hx rfl (hb hby dbm_27) rfl ?_
    show Steps p.tables e below (T5.setTop (mkF m 28 #[.val (.ref ao), .val (.ref a2), .val (.int (0 : Int32)), .unset, .unset, .unset, .unset, .unset, .unset, .unset, .unset] [(.long (f1.toInt64)), (.int (0 : Int32)), (.ref a2)])) _
    refine XS.bipush P5.here hx rfl (hb hby dbm_28) ?_
    show Steps p.tables e below (T5.setTop (mkF m 30 #[.val (.ref ao), .val (.ref a2), .val (.int (0 : Int32)), .unset, .unset, .unset, .unset, .unset, .unset, .unset, .unset] [(.int (32 : Int32)), (.long (f1.toInt64)), (.int (0 : Int32)), (.ref a2)])) _
    refine XT.lshl P5.here hx rfl (hb hby dbm_30) rfl ?_
    show Steps p.tables e below (T5.setTop (mkF m 31 #[.val (.ref ao), .val (.ref a2), .val (.int (0 : Int32)), .unset, .unset, .unset, .unset, .unset, .unset, .unset, .unset] [(.long ((f1.toInt64) <<< (((32 : Int32)).toInt64 &&& 63))), (.int (0 : Int32)), (.ref a2)])) _
    refine XS.aloadN P5.here hx rfl (hb hby dbm_31) rfl rfl ?_
    show Steps p.tables e below (T5.setTop (mkF m 32 #[.val (.ref ao), .val (.ref a2), .val (.int (0 : Int32)), .unset, .unset, .unset, .unset, .unset, .unset, .unset, .unset] [(.ref ao), (.long ((f1.toInt64) <<< (((32 : Int32)).toInt64 &&& 63))), (.int (0 : Int32)), (.ref a2)])) _
    exact kQ
  show OwnDone p e below _ (T5.setTop (mkF m 32 #[.val (.ref ao), .val (.ref a2), .val (.int (0 : Int32)), .unset, .unset, .unset, .unset, .unset, .unset, .unset, .unset] [(.ref ao), (.long ((f1.toInt64) <<< (((32 : Int32)).toInt64 &&& 63))), (.int (0 : Int32)), (.ref a2)]))
  refine own_getF C P5 (host := "") (Or.inl (hw _ (List.mem_of_getElem? (i := 23) rfl))) Via.refl (O3_ao.2 0 _ _ _ _ rfl rfl) dbm_32 (fun T6 P6 => ?_)
  show OwnDone p e below _ (T6.setTop (mkF m 35 #[.val (.ref ao), .val (.ref a2), .val (.int (0 : Int32)), .unset, .unset, .unset, .unset, .unset, .unset, .unset, .unset] [(.ref b), (.long ((f1.toInt64) <<< (((32 : Int32)).toInt64 &&& 63))), (.int (0 : Int32)), (.ref a2)]))
  refine OwnDone.go (A := (T6.setTop (mkF m 43 #[.val (.ref ao), .val (.ref a2), .val (.int (0 : Int32)), .unset, .unset, .unset, .unset, .unset, .unset, .unset, .unset] [(.long (((f1.toInt64) <<< (((32 : Int32)).toInt64 &&& 63)) ||| (l1.toInt64))), (.int (0 : Int32)), (.ref a2)]))) (fun tQ kQ => ?_) ?_
  · refine XS.iconst P6.here hx rfl (hb hby dbm_35) ?_
    show Steps p.tables e below (T6.setTop (mkF m 36 #[.val (.ref ao), .val (.ref a2), .val (.int (0 : Int32)), .unset, .unset, .unset, .unset, .unset, .unset, .unset, .unset] [(.int (2 : Int32)), (.ref b), (.long ((f1.toInt64) <<< (((32 : Int32)).toInt64 &&& 63))), (.int (0 : Int32)), (.ref a2)])) _
    refine XS.iloadN P6.here hx rfl (hb hby dbm_36) rfl ?_
    show Steps p.tables e below (T6.setTop (mkF m 37 #[.val (.ref ao), .val (.ref a2), .val (.int (0 : Int32)), .unset, .unset, .unset, .unset, .unset, .unset, .unset, .unset] [(.int (0 : Int32)), (.int (2 : Int32)), (.ref b), (.long ((f1.toInt64) <<< (((32 : Int32)).toInt64 &&& 63))), (.int (0 : Int32)), (.ref a2)])) _
    refine XS.imul P6.here hx rfl (hb hby dbm_37) rfl ?_
    show Steps p.tables e below (T6.setTop (mkF m 38 #[.val (.ref ao), .val (.ref a2), .val (.int (0 : Int32)), .unset, .unset, .unset, .unset, .unset, .unset, .unset, .unset] [(.int (0 : Int32)), (.ref b), (.long ((f1.toInt64) <<< (((32 : Int32)).toInt64 &&& 63))), (.int (0 : Int32)), (.ref a2)])) _
    refine XS.iconst P6.here hx rfl (hb hby dbm_38) ?_
    show Steps p.tables e below (T6.setTop (mkF m 39 #[.val (.ref ao), .val (.ref a2), .val (.int (0 : Int32)), .unset, .unset, .unset, .unset, .unset, .unset, .unset, .unset] [(.int (1 : Int32)), (.int (0 : Int32)), (.ref b), (.long ((f1.toInt64) <<< (((32 : Int32)).toInt64 &&& 63))), (.int (0 : Int32)), (.ref a2)])) _
    refine XS.iadd P6.here hx rfl (hb hby dbm_39) rfl ?_
    show Steps p.tables e below (T6.setTop (mkF m 40 #[.val (.ref ao), .val (.ref a2), .val (.int (0 : Int32)), .unset, .unset, .unset, .unset, .unset, .unset, .unset, .unset] [(.int (1 : Int32)), (.ref b), (.long ((f1.toInt64) <<< (((32 : Int32)).toInt64 &&& 63))), (.int (0 : Int32)), (.ref a2)])) _
    refine own_iaload C P6 Y4_b (by decide) rfl dbm_40 ?_
    show Steps p.tables e below (T6.setTop (mkF m 41 #[.val (.ref ao), .val (.ref a2), .val (.int (0 : Int32)), .unset, .unset, .unset, .unset, .unset, .unset, .unset, .unset] [(.int l1), (.long ((f1.toInt64) <<< (((32 : Int32)).toInt64 &&& 63))), (.int (0 : Int32)), (.ref a2)])) _
    refine XT.i2l P6.here hx rfl (hb hby dbm_41) rfl ?_
    show Steps p.tables e below (T6.setTop (mkF m 42 #[.val (.ref ao), .val (.ref a2), .val (.int (0 : Int32)), .unset, .unset, .unset, .unset, .unset, .unset, .unset, .unset] [(.long (l1.toInt64)), (.long ((f1.toInt64) <<< (((32 : Int32)).toInt64 &&& 63))), (.int (0 : Int32)), (.ref a2)])) _
    refine XT.lor P6.here hx rfl (hb hby dbm_42) rfl ?_
    show Steps p.tables e below (T6.setTop (mkF m 43 #[.val (.ref ao), .val (.ref a2), .val (.int (0 : Int32)), .unset, .unset, .unset, .unset, .unset, .unset, .unset, .unset] [(.long (((f1.toInt64) <<< (((32 : Int32)).toInt64 &&& 63)) ||| (l1.toInt64))), (.int (0 : Int32)), (.ref a2)])) _
    exact kQ
  show OwnDone p e below _ (T6.setTop (mkF m 43 #[.val (.ref ao), .val (.ref a2), .val (.int (0 : Int32)), .unset, .unset, .unset, .unset, .unset, .unset, .unset, .unset] [(.long (((f1.toInt64) <<< (((32 : Int32)).toInt64 &&& 63)) ||| (l1.toInt64))), (.int (0 : Int32)), (.ref a2)]))
  show OwnDone p e below _ (T6.setTop (mkF m 43 #[.val (.ref ao), .val (.ref a2), .val (.int (0 : Int32)), .unset, .unset, .unset, .unset, .unset, .unset, .unset, .unset] [(.long (own_pk f1 l1)), (.int (0 : Int32)), (.ref a2)]))
  refine own_lastore C P6 Y2 (by decide) (show ((0 : Int32) : Int32).toNatClampNeg < 2 from by decide) (Or.inr ge_a2) dbm_43 (vs' := [(.long (own_pk f1 l1)), (.long (0 : Int64))]) rfl (fun T7 h7 P7 K7 Y7 => ?_)
  have O8_ao := O3_ao.keep K7 (ninS ne_ao_a2 nin0)
  have Y9_b := Y4_b.keep K7 (ninS ne_b_a2 nin0)
  show OwnDone p e below _ (T7.setTop (mkF m 44 #[.val (.ref ao), .val (.ref a2), .val (.int (0 : Int32)), .unset, .unset, .unset, .unset, .unset, .unset, .unset, .unset] []))
  refine OwnDone.go (A := (T7.setTop (mkF m 14 #[.val (.ref ao), .val (.ref a2), .val (.int (1 : Int32)), .unset, .unset, .unset, .unset, .unset, .unset, .unset, .unset] [(.int (2 : Int32)), (.int (1 : Int32))]))) (fun tQ kQ => ?_) ?_
  · refine XS.iinc P7.here hx rfl (hb hby dbm_44) rfl (l' := #[.val (.ref ao), .val (.ref a2), .val (.int (1 : Int32)), .unset, .unset, .unset, .unset, .unset, .unset, .unset, .unset]) rfl ?_
    show Steps p.tables e below (T7.setTop (mkF m 47 #[.val (.ref ao), .val (.ref a2), .val (.int (1 : Int32)), .unset, .unset, .unset, .unset, .unset, .unset, .unset, .unset] [])) _
    refine XS.goto P7.here hx rfl (pc0 := 47) (pc' := 11) rfl (hb hby dbm_47) (by decide) (by decide) ?_
    show Steps p.tables e below (T7.setTop (mkF m 11 #[.val (.ref ao), .val (.ref a2), .val (.int (1 : Int32)), .unset, .unset, .unset, .unset, .unset, .unset, .unset, .unset] [])) _
    refine XS.iloadN P7.here hx rfl (hb hby dbm_11) rfl ?_
    show Steps p.tables e below (T7.setTop (mkF m 12 #[.val (.ref ao), .val (.ref a2), .val (.int (1 : Int32)), .unset, .unset, .unset, .unset, .unset, .unset, .unset, .unset] [(.int (1 : Int32))])) _
    refine XS.aloadN P7.here hx rfl (hb hby dbm_12) rfl rfl ?_
    show Steps p.tables e below (T7.setTop (mkF m 13 #[.val (.ref ao), .val (.ref a2), .val (.int (1 : Int32)), .unset, .unset, .unset, .unset, .unset, .unset, .unset, .unset] [(.ref a2), (.int (1 : Int32))])) _
    refine own_alen C P7 Y7 dbm_13 ?_
    show Steps p.tables e below (T7.setTop (mkF m 14 #[.val (.ref ao), .val (.ref a2), .val (.int (1 : Int32)), .unset, .unset, .unset, .unset, .unset, .unset, .unset, .unset] [(.int (2 : Int32)), (.int (1 : Int32))])) _
    exact kQ
  show OwnDone p e below _ (T7.setTop (mkF m 14 #[.val (.ref ao), .val (.ref a2), .val (.int (1 : Int32)), .unset, .unset, .unset, .unset, .unset, .unset, .unset, .unset] [(.int (2 : Int32)), (.int (1 : Int32))]))
  refine OwnDone.go (A := (T7.setTop (mkF m 17 #[.val (.ref ao), .val (.ref a2), .val (.int (1 : Int32)), .unset, .unset, .unset, .unset, .unset, .unset, .unset, .unset] []))) (fun tQ kQ => XS.icmpNo P7.here hx rfl (hb hby dbm_14) rfl (XT.ii_ge_f (by decide)) kQ) ?_
  show OwnDone p e below _ (T7.setTop (mkF m 17 #[.val (.ref ao), .val (.ref a2), .val (.int (1 : Int32)), .unset, .unset, .unset, .unset, .unset, .unset, .unset, .unset] []))
  refine OwnDone.go (A := (T7.setTop (mkF m 20 #[.val (.ref ao), .val (.ref a2), .val (.int (1 : Int32)), .unset, .unset, .unset, .unset, .unset, .unset, .unset, .unset] [(.ref ao), (.int (1 : Int32)), (.ref a2)]))) (fun tQ kQ => ?_) ?_
  · refine XS.aloadN P7.here hx rfl (hb hby dbm_17) rfl rfl ?_
    show Steps p.tables e below (T7.setTop (mkF m 18 #[.val (.ref ao), .val (.ref a2), .val (.int (1 : Int32)), .unset, .unset, .unset, .unset, .unset, .unset, .unset, .unset] [(.ref a2)])) _
    refine XS.iloadN P7.here hx rfl (hb hby dbm_18) rfl ?_
    show Steps p.tables e below (T7.setTop (mkF m 19 #[.val (.ref ao), .val (.ref a2), .val (.int (1 : Int32)), .unset, .unset, .unset, .unset, .unset, .unset, .unset, .unset] [(.int (1 : Int32)), (.ref a2)])) _
    refine XS.aloadN P7.here hx rfl (hb hby dbm_19) rfl rfl ?_
    show Steps p.tables e below (T7.setTop (mkF m 20 #[.val (.ref ao), .val (.ref a2), .val (.int (1 : Int32)), .unset, .unset, .unset, .unset, .unset, .unset, .unset, .unset] [(.ref ao), (.int (1 : Int32)), (.ref a2)])) _
    exact kQ
  show OwnDone p e below _ (T7.setTop (mkF m 20 #[.val (.ref ao), .val (.ref a2), .val (.int (1 : Int32)), .unset, .unset, .unset, .unset, .unset, .unset, .unset, .unset] [(.ref ao), (.int (1 : Int32)), (.ref a2)]))
  refine own_getF C P7 (host := "") (Or.inl (hw _ (List.mem_of_getElem? (i := 23) rfl))) Via.refl (O8_ao.2 0 _ _ _ _ rfl rfl) dbm_20 (fun T10 P10 => ?_)
  show OwnDone p e below _ (T10.setTop (mkF m 23 #[.val (.ref ao), .val (.ref a2), .val (.int (1 : Int32)), .unset, .unset, .unset, .unset, .unset, .unset, .unset, .unset] [(.ref b), (.int (1 : Int32)), (.ref a2)]))
  refine OwnDone.go (A := (T10.setTop (mkF m 32 #[.val (.ref ao), .val (.ref a2), .val (.int (1 : Int32)), .unset, .unset, .unset, .unset, .unset, .unset, .unset, .unset] [(.ref ao), (.long ((f2.toInt64) <<< (((32 : Int32)).toInt64 &&& 63))), (.int (1 : Int32)), (.ref a2)]))) (fun tQ kQ => ?_) ?_
  · refine XS.iconst P10.here hx rfl (hb hby dbm_23) ?_
    show Steps p.tables e below (T10.setTop (mkF m 24 #[.val (.ref ao), .val (.ref a2), .val (.int (1 : Int32)), .unset, .unset, .unset, .unset, .unset, .unset, .unset, .unset] [(.int (2 : Int32)), (.ref b), (.int (1 : Int32)), (.ref a2)])) _
    refine XS.iloadN P10.here hx rfl (hb hby dbm_24) rfl ?_
    show Steps p.tables e below (T10.setTop (mkF m 25 #[.val (.ref ao), .val (.ref a2), .val (.int (1 : Int32)), .unset, .unset, .unset, .unset, .unset, .unset, .unset, .unset] [(.int (1 : Int32)), (.int (2 : Int32)), (.ref b), (.int (1 : Int32)), (.ref a2)])) _
    refine XS.imul P10.here hx rfl (hb hby dbm_25) rfl ?_
    show Steps p.tables e below (T10.setTop (mkF m 26 #[.val (.ref ao), .val (.ref a2), .val (.int (1 : Int32)), .unset, .unset, .unset, .unset, .unset, .unset, .unset, .unset] [(.int (2 : Int32)), (.ref b), (.int (1 : Int32)), (.ref a2)])) _
    refine own_iaload C P10 Y9_b (by decide) rfl dbm_26 ?_
    show Steps p.tables e below (T10.setTop (mkF m 27 #[.val (.ref ao), .val (.ref a2), .val (.int (1 : Int32)), .unset, .unset, .unset, .unset, .unset, .unset, .unset, .unset] [(.int f2), (.int (1 : Int32)), (.ref a2)])) _
    refine XT.i2l P10.here hx rfl (hb hby dbm_27) rfl ?_
    show Steps p.tables e below (T10.setTop (mkF m 28 #[.val (.ref ao), .val (.ref a2), .val (.int (1 : Int32)), .unset, .unset, .unset, .unset, .unset, .unset, .unset, .unset] [(.long (f2.toInt64)), (.int (1 : Int32)), (.ref a2)])) _
    refine XS.bipush P10.here hx rfl (hb hby dbm_28) ?_
    show Steps p.tables e below (T10.setTop (mkF m 30 #[.val (.ref ao), .val (.ref a2), .val (.int (1 : Int32)), .unset, .unset, .unset, .unset, .unset, .unset, .unset, .unset] [(.int (32 : Int32)), (.long (f2.toInt64)), (.int (1 : Int32)), (.ref a2)])) _
    refine XT.lshl P10.here hx rfl (hb hby dbm_30) rfl ?_
    show Steps p.tables e below (T10.setTop (mkF m 31 #[.val (.ref ao), .val (.ref a2), .val (.int (1 : Int32)), .unset, .unset, .unset, .unset, .unset, .unset, .unset, .unset] [(.long ((f2.toInt64) <<< (((32 : Int32)).toInt64 &&& 63))), (.int (1 : Int32)), (.ref a2)])) _
    refine XS.aloadN P10.here hx rfl (hb hby dbm_31) rfl rfl ?_
    show Steps p.tables e below (T10.setTop (mkF m 32 #[.val (.ref ao), .val (.ref a2), .val (.int (1 : Int32)), .unset, .unset, .unset, .unset, .unset, .unset, .unset, .unset] [(.ref ao), (.long ((f2.toInt64) <<< (((32 : Int32)).toInt64 &&& 63))), (.int (1 : Int32)), (.ref a2)])) _
    exact kQ
  show OwnDone p e below _ (T10.setTop (mkF m 32 #[.val (.ref ao), .val (.ref a2), .val (.int (1 : Int32)), .unset, .unset, .unset, .unset, .unset, .unset, .unset, .unset] [(.ref ao), (.long ((f2.toInt64) <<< (((32 : Int32)).toInt64 &&& 63))), (.int (1 : Int32)), (.ref a2)]))
  refine own_getF C P10 (host := "") (Or.inl (hw _ (List.mem_of_getElem? (i := 23) rfl))) Via.refl (O8_ao.2 0 _ _ _ _ rfl rfl) dbm_32 (fun T11 P11 => ?_)
  show OwnDone p e below _ (T11.setTop (mkF m 35 #[.val (.ref ao), .val (.ref a2), .val (.int (1 : Int32)), .unset, .unset, .unset, .unset, .unset, .unset, .unset, .unset] [(.ref b), (.long ((f2.toInt64) <<< (((32 : Int32)).toInt64 &&& 63))), (.int (1 : Int32)), (.ref a2)]))
  refine OwnDone.go (A := (T11.setTop (mkF m 43 #[.val (.ref ao), .val (.ref a2), .val (.int (1 : Int32)), .unset, .unset, .unset, .unset, .unset, .unset, .unset, .unset] [(.long (((f2.toInt64) <<< (((32 : Int32)).toInt64 &&& 63)) ||| (l2.toInt64))), (.int (1 : Int32)), (.ref a2)]))) (fun tQ kQ => ?_) ?_
  · refine XS.iconst P11.here hx rfl (hb hby dbm_35) ?_
    show Steps p.tables e below (T11.setTop (mkF m 36 #[.val (.ref ao), .val (.ref a2), .val (.int (1 : Int32)), .unset, .unset, .unset, .unset, .unset, .unset, .unset, .unset] [(.int (2 : Int32)), (.ref b), (.long ((f2.toInt64) <<< (((32 : Int32)).toInt64 &&& 63))), (.int (1 : Int32)), (.ref a2)])) _
    refine XS.iloadN P11.here hx rfl (hb hby dbm_36) rfl ?_
    show Steps p.tables e below (T11.setTop (mkF m 37 #[.val (.ref ao), .val (.ref a2), .val (.int (1 : Int32)), .unset, .unset, .unset, .unset, .unset, .unset, .unset, .unset] [(.int (1 : Int32)), (.int (2 : Int32)), (.ref b), (.long ((f2.toInt64) <<< (((32 : Int32)).toInt64 &&& 63))), (.int (1 : Int32)), (.ref a2)])) _
    refine XS.imul P11.here hx rfl (hb hby dbm_37) rfl ?_
    show Steps p.tables e below (T11.setTop (mkF m 38 #[.val (.ref ao), .val (.ref a2), .val (.int (1 : Int32)), .unset, .unset, .unset, .unset, .unset, .unset, .unset, .unset] [(.int (2 : Int32)), (.ref b), (.long ((f2.toInt64) <<< (((32 : Int32)).toInt64 &&& 63))), (.int (1 : Int32)), (.ref a2)])) _
    refine XS.iconst P11.here hx rfl (hb hby dbm_38) ?_
    show Steps p.tables e below (T11.setTop (mkF m 39 #[.val (.ref ao), .val (.ref a2), .val (.int (1 : Int32)), .unset, .unset, .unset, .unset, .unset, .unset, .unset, .unset] [(.int (1 : Int32)), (.int (2 : Int32)), (.ref b), (.long ((f2.toInt64) <<< (((32 : Int32)).toInt64 &&& 63))), (.int (1 : Int32)), (.ref a2)])) _
    refine XS.iadd P11.here hx rfl (hb hby dbm_39) rfl ?_
    show Steps p.tables e below (T11.setTop (mkF m 40 #[.val (.ref ao), .val (.ref a2), .val (.int (1 : Int32)), .unset, .unset, .unset, .unset, .unset, .unset, .unset, .unset] [(.int (3 : Int32)), (.ref b), (.long ((f2.toInt64) <<< (((32 : Int32)).toInt64 &&& 63))), (.int (1 : Int32)), (.ref a2)])) _
    refine own_iaload C P11 Y9_b (by decide) rfl dbm_40 ?_
    show Steps p.tables e below (T11.setTop (mkF m 41 #[.val (.ref ao), .val (.ref a2), .val (.int (1 : Int32)), .unset, .unset, .unset, .unset, .unset, .unset, .unset, .unset] [(.int l2), (.long ((f2.toInt64) <<< (((32 : Int32)).toInt64 &&& 63))), (.int (1 : Int32)), (.ref a2)])) _
    refine XT.i2l P11.here hx rfl (hb hby dbm_41) rfl ?_
    show Steps p.tables e below (T11.setTop (mkF m 42 #[.val (.ref ao), .val (.ref a2), .val (.int (1 : Int32)), .unset, .unset, .unset, .unset, .unset, .unset, .unset, .unset] [(.long (l2.toInt64)), (.long ((f2.toInt64) <<< (((32 : Int32)).toInt64 &&& 63))), (.int (1 : Int32)), (.ref a2)])) _
    refine XT.lor P11.here hx rfl (hb hby dbm_42) rfl ?_
    show Steps p.tables e below (T11.setTop (mkF m 43 #[.val (.ref ao), .val (.ref a2), .val (.int (1 : Int32)), .unset, .unset, .unset, .unset, .unset, .unset, .unset, .unset] [(.long (((f2.toInt64) <<< (((32 : Int32)).toInt64 &&& 63)) ||| (l2.toInt64))), (.int (1 : Int32)), (.ref a2)])) _
    exact kQ
  show OwnDone p e below _ (T11.setTop (mkF m 43 #[.val (.ref ao), .val (.ref a2), .val (.int (1 : Int32)), .unset, .unset, .unset, .unset, .unset, .unset, .unset, .unset] [(.long (((f2.toInt64) <<< (((32 : Int32)).toInt64 &&& 63)) ||| (l2.toInt64))), (.int (1 : Int32)), (.ref a2)]))
  show OwnDone p e below _ (T11.setTop (mkF m 43 #[.val (.ref ao), .val (.ref a2), .val (.int (1 : Int32)), .unset, .unset, .unset, .unset, .unset, .unset, .unset, .unset] [(.long (own_pk f2 l2)), (.int (1 : Int32)), (.ref a2)]))
  refine own_lastore C P11 Y7 (by decide) (show ((1 : Int32) : Int32).toNatClampNeg < 2 from by decide) (Or.inr ge_a2) dbm_43 (vs' := [(.long (own_pk f1 l1)), (.long (own_pk f2 l2))]) rfl (fun T12 h12 P12 K12 Y12 => ?_)
  have O13_ao := O8_ao.keep K12 (ninS ne_ao_a2 nin0)
  have Y14_b := Y9_b.keep K12 (ninS ne_b_a2 nin0)
  show OwnDone p e below _ (T12.setTop (mkF m 44 #[.val (.ref ao), .val (.ref a2), .val (.int (1 : Int32)), .unset, .unset, .unset, .unset, .unset, .unset, .unset, .unset] []))
  refine OwnDone.go (A := (T12.setTop (mkF m 14 #[.val (.ref ao), .val (.ref a2), .val (.int (2 : Int32)), .unset, .unset, .unset, .unset, .unset, .unset, .unset, .unset] [(.int (2 : Int32)), (.int (2 : Int32))]))) (fun tQ kQ => ?_) ?_
  · refine XS.iinc P12.here hx rfl (hb hby dbm_44) rfl (l' := #[.val (.ref ao), .val (.ref a2), .val (.int (2 : Int32)), .unset, .unset, .unset, .unset, .unset, .unset, .unset, .unset]) rfl ?_
    show Steps p.tables e below (T12.setTop (mkF m 47 #[.val (.ref ao), .val (.ref a2), .val (.int (2 : Int32)), .unset, .unset, .unset, .unset, .unset, .unset, .unset, .unset] [])) _
    refine XS.goto P12.here hx rfl (pc0 := 47) (pc' := 11) rfl (hb hby dbm_47) (by decide) (by decide) ?_
    show Steps p.tables e below (T12.setTop (mkF m 11 #[.val (.ref ao), .val (.ref a2), .val (.int (2 : Int32)), .unset, .unset, .unset, .unset, .unset, .unset, .unset, .unset] [])) _
    refine XS.iloadN P12.here hx rfl (hb hby dbm_11) rfl ?_
    show Steps p.tables e below (T12.setTop (mkF m 12 #[.val (.ref ao), .val (.ref a2), .val (.int (2 : Int32)), .unset, .unset, .unset, .unset, .unset, .unset, .unset, .unset] [(.int (2 : Int32))])) _
    refine XS.aloadN P12.here hx rfl (hb hby dbm_12) rfl rfl ?_
    show Steps p.tables e below (T12.setTop (mkF m 13 #[.val (.ref ao), .val (.ref a2), .val (.int (2 : Int32)), .unset, .unset, .unset, .unset, .unset, .unset, .unset, .unset] [(.ref a2), (.int (2 : Int32))])) _
    refine own_alen C P12 Y12 dbm_13 ?_
    show Steps p.tables e below (T12.setTop (mkF m 14 #[.val (.ref ao), .val (.ref a2), .val (.int (2 : Int32)), .unset, .unset, .unset, .unset, .unset, .unset, .unset, .unset] [(.int (2 : Int32)), (.int (2 : Int32))])) _
    exact kQ
  show OwnDone p e below _ (T12.setTop (mkF m 14 #[.val (.ref ao), .val (.ref a2), .val (.int (2 : Int32)), .unset, .unset, .unset, .unset, .unset, .unset, .unset, .unset] [(.int (2 : Int32)), (.int (2 : Int32))]))
  refine OwnDone.go (A := (T12.setTop (mkF m 50 #[.val (.ref ao), .val (.ref a2), .val (.int (2 : Int32)), .unset, .unset, .unset, .unset, .unset, .unset, .unset, .unset] []))) (fun tQ kQ => XS.icmpYes P12.here hx rfl (pc0 := 14) (pc' := 50) rfl (hb hby dbm_14) rfl (XT.ii_ge_t (by decide)) (by decide) (by decide) kQ) ?_
  show OwnDone p e below _ (T12.setTop (mkF m 50 #[.val (.ref ao), .val (.ref a2), .val (.int (2 : Int32)), .unset, .unset, .unset, .unset, .unset, .unset, .unset, .unset] []))
  refine OwnDone.go (A := (T12.setTop (mkF m 51 #[.val (.ref ao), .val (.ref a2), .val (.int (2 : Int32)), .unset, .unset, .unset, .unset, .unset, .unset, .unset, .unset] [(.ref a2)]))) (fun tQ kQ => ?_) ?_
  · refine XS.aloadN P12.here hx rfl (hb hby dbm_50) rfl rfl ?_
    show Steps p.tables e below (T12.setTop (mkF m 51 #[.val (.ref ao), .val (.ref a2), .val (.int (2 : Int32)), .unset, .unset, .unset, .unset, .unset, .unset, .unset, .unset] [(.ref a2)])) _
    exact kQ
  show OwnDone p e below _ (T12.setTop (mkF m 51 #[.val (.ref ao), .val (.ref a2), .val (.int (2 : Int32)), .unset, .unset, .unset, .unset, .unset, .unset, .unset, .unset] [(.ref a2)]))
  refine own_callS (y := (⟨"java/util/Arrays", "sort", "([J)V"⟩ : MethodName)) C P12 (hw _ (List.mem_of_getElem? (i := 128) rfl)) (hw _ (List.mem_of_getElem? (i := 129) rfl)) (hw _ (List.mem_of_getElem? (i := 130) rfl)) (hw _ (List.mem_of_getElem? (i := 131) rfl)) (by decide) (rmsoa l Z a0 hw a2 k2 (own_pk f1 l1) (own_pk f2 l2) h12 P12.old (Nat.le_trans hE.1 ge_a2) Y12) (as := [(.ref a2)]) (rest := []) pd_14 rfl rfl (wd := 0) rfl rfl dbm_51 (allS (Or.inr ge_a2) all0) (by decide) (by decide) (by decide) (by decide) (fun T15 h15 v15 P15 K15 hQ15 => ?_)
  obtain ⟨rfl, y015, y115, Y15, so15⟩ := hQ15
  have O16_ao := O13_ao.keep K15 (ninS ne_ao_a2 nin0)
  have Y17_b := Y14_b.keep K15 (ninS ne_b_a2 nin0)
  obtain ⟨rfl, rfl⟩ := own_srt hp hs so15
  show OwnDone p e below _ (T15.setTop (mkF m 54 #[.val (.ref ao), .val (.ref a2), .val (.int (2 : Int32)), .unset, .unset, .unset, .unset, .unset, .unset, .unset, .unset] []))
  refine OwnDone.go (A := (T15.setTop (mkF m 55 #[.val (.ref ao), .val (.ref a2), .val (.int (2 : Int32)), .unset, .unset, .unset, .unset, .unset, .unset, .unset, .unset] [(.ref ao)]))) (fun tQ kQ => ?_) ?_
  · refine XS.aloadN P15.here hx rfl (hb hby dbm_54) rfl rfl ?_
    show Steps p.tables e below (T15.setTop (mkF m 55 #[.val (.ref ao), .val (.ref a2), .val (.int (2 : Int32)), .unset, .unset, .unset, .unset, .unset, .unset, .unset, .unset] [(.ref ao)])) _
    exact kQ
  show OwnDone p e below _ (T15.setTop (mkF m 55 #[.val (.ref ao), .val (.ref a2), .val (.int (2 : Int32)), .unset, .unset, .unset, .unset, .unset, .unset, .unset, .unset] [(.ref ao)]))
  refine own_getF C P15 (host := "") (Or.inl (hw _ (List.mem_of_getElem? (i := 120) rfl))) Via.refl (O16_ao.2 2 _ _ _ _ rfl rfl) dbm_55 (fun T18 P18 => ?_)
  show OwnDone p e below _ (T18.setTop (mkF m 58 #[.val (.ref ao), .val (.ref a2), .val (.int (2 : Int32)), .unset, .unset, .unset, .unset, .unset, .unset, .unset, .unset] [(.int (4 : Int32))]))
  refine own_newP (aty := .int) (n := (4 : Int32)) (cap := 4) (vs := [(.int (0 : Int32)), (.int (0 : Int32)), (.int (0 : Int32)), (.int (0 : Int32))]) C P18 (hw _ (List.mem_of_getElem? (i := 22) rfl)) dbm_58 (by decide) (by decide) (by decide) (by decide +kernel) rfl (by decide) (by decide) (fun T19 h19 a19 k19 ga19 la19 P19 K19 Y19 N19 => ?_)
  have ge_a19 : h0.size ≤ a19 := by rw [ga19]; exact P18.keep.1
  have ne_ao_a19 : ao ≠ a19 := by rw [ga19]; exact Nat.ne_of_lt O16_ao.lt
  have ne_b_a19 : b ≠ a19 := by rw [ga19]; exact Nat.ne_of_lt Y17_b.lt
  have ne_a2_a19 : a2 ≠ a19 := by rw [ga19]; exact Nat.ne_of_lt Y15.lt
  have O20_ao := O16_ao.keep K19 nin0
  have Y21_b := Y17_b.keep K19 nin0
  have Y22_a2 := Y15.keep K19 nin0
  have Y19 : OwnAry Z h19 a19 k19 .int [(.int (0 : Int32)), (.int (0 : Int32)), (.int (0 : Int32)), (.int (0 : Int32))] := Y19
  show OwnDone p e below _ (T19.setTop (mkF m 60 #[.val (.ref ao), .val (.ref a2), .val (.int (2 : Int32)), .unset, .unset, .unset, .unset, .unset, .unset, .unset, .unset] [(.ref a19)]))
  refine OwnDone.go (A := (T19.setTop (mkF m 78 #[.val (.ref ao), .val (.ref a2), .val (.ref a19), .val (.int (0 : Int32)), .val (.ref a2), .val (.int (2 : Int32)), .val (.int (0 : Int32)), .unset, .unset, .unset, .unset] [(.int (2 : Int32)), (.int (0 : Int32))]))) (fun tQ kQ => ?_) ?_
  · refine XS.astoreN P19.here hx rfl (hb hby dbm_60) rfl rfl (l' := #[.val (.ref ao), .val (.ref a2), .val (.ref a19), .unset, .unset, .unset, .unset, .unset, .unset, .unset, .unset]) rfl ?_
    show Steps p.tables e below (T19.setTop (mkF m 61 #[.val (.ref ao), .val (.ref a2), .val (.ref a19), .unset, .unset, .unset, .unset, .unset, .unset, .unset, .unset] [])) _
    refine XS.iconst P19.here hx rfl (hb hby dbm_61) ?_
    show Steps p.tables e below (T19.setTop (mkF m 62 #[.val (.ref ao), .val (.ref a2), .val (.ref a19), .unset, .unset, .unset, .unset, .unset, .unset, .unset, .unset] [(.int (0 : Int32))])) _
    refine XS.istoreN P19.here hx rfl (hb hby dbm_62) rfl (l' := #[.val (.ref ao), .val (.ref a2), .val (.ref a19), .val (.int (0 : Int32)), .unset, .unset, .unset, .unset, .unset, .unset, .unset]) rfl ?_
    show Steps p.tables e below (T19.setTop (mkF m 63 #[.val (.ref ao), .val (.ref a2), .val (.ref a19), .val (.int (0 : Int32)), .unset, .unset, .unset, .unset, .unset, .unset, .unset] [])) _
    refine XS.aloadN P19.here hx rfl (hb hby dbm_63) rfl rfl ?_
    show Steps p.tables e below (T19.setTop (mkF m 64 #[.val (.ref ao), .val (.ref a2), .val (.ref a19), .val (.int (0 : Int32)), .unset, .unset, .unset, .unset, .unset, .unset, .unset] [(.ref a2)])) _
    refine XS.astore P19.here hx rfl (hb hby dbm_64) rfl rfl (l' := #[.val (.ref ao), .val (.ref a2), .val (.ref a19), .val (.int (0 : Int32)), .val (.ref a2), .unset, .unset, .unset, .unset, .unset, .unset]) rfl ?_
    show Steps p.tables e below (T19.setTop (mkF m 66 #[.val (.ref ao), .val (.ref a2), .val (.ref a19), .val (.int (0 : Int32)), .val (.ref a2), .unset, .unset, .unset, .unset, .unset, .unset] [])) _
    refine XS.aload P19.here hx rfl (hb hby dbm_66) rfl rfl ?_
    show Steps p.tables e below (T19.setTop (mkF m 68 #[.val (.ref ao), .val (.ref a2), .val (.ref a19), .val (.int (0 : Int32)), .val (.ref a2), .unset, .unset, .unset, .unset, .unset, .unset] [(.ref a2)])) _
    refine own_alen C P19 Y22_a2 dbm_68 ?_
    show Steps p.tables e below (T19.setTop (mkF m 69 #[.val (.ref ao), .val (.ref a2), .val (.ref a19), .val (.int (0 : Int32)), .val (.ref a2), .unset, .unset, .unset, .unset, .unset, .unset] [(.int (2 : Int32))])) _
    refine XS.istore P19.here hx rfl (hb hby dbm_69) rfl (l' := #[.val (.ref ao), .val (.ref a2), .val (.ref a19), .val (.int (0 : Int32)), .val (.ref a2), .val (.int (2 : Int32)), .unset, .unset, .unset, .unset, .unset]) rfl ?_
    show Steps p.tables e below (T19.setTop (mkF m 71 #[.val (.ref ao), .val (.ref a2), .val (.ref a19), .val (.int (0 : Int32)), .val (.ref a2), .val (.int (2 : Int32)), .unset, .unset, .unset, .unset, .unset] [])) _
    refine XS.iconst P19.here hx rfl (hb hby dbm_71) ?_
    show Steps p.tables e below (T19.setTop (mkF m 72 #[.val (.ref ao), .val (.ref a2), .val (.ref a19), .val (.int (0 : Int32)), .val (.ref a2), .val (.int (2 : Int32)), .unset, .unset, .unset, .unset, .unset] [(.int (0 : Int32))])) _
    refine XS.istore P19.here hx rfl (hb hby dbm_72) rfl (l' := #[.val (.ref ao), .val (.ref a2), .val (.ref a19), .val (.int (0 : Int32)), .val (.ref a2), .val (.int (2 : Int32)), .val (.int (0 : Int32)), .unset, .unset, .unset, .unset]) rfl ?_
    show Steps p.tables e below (T19.setTop (mkF m 74 #[.val (.ref ao), .val (.ref a2), .val (.ref a19), .val (.int (0 : Int32)), .val (.ref a2), .val (.int (2 : Int32)), .val (.int (0 : Int32)), .unset, .unset, .unset, .unset] [])) _
    refine XS.iload P19.here hx rfl (hb hby dbm_74) rfl ?_
    show Steps p.tables e below (T19.setTop (mkF m 76 #[.val (.ref ao), .val (.ref a2), .val (.ref a19), .val (.int (0 : Int32)), .val (.ref a2), .val (.int (2 : Int32)), .val (.int (0 : Int32)), .unset, .unset, .unset, .unset] [(.int (0 : Int32))])) _
    refine XS.iload P19.here hx rfl (hb hby dbm_76) rfl ?_
    show Steps p.tables e below (T19.setTop (mkF m 78 #[.val (.ref ao), .val (.ref a2), .val (.ref a19), .val (.int (0 : Int32)), .val (.ref a2), .val (.int (2 : Int32)), .val (.int (0 : Int32)), .unset, .unset, .unset, .unset] [(.int (2 : Int32)), (.int (0 : Int32))])) _
    exact kQ
  show OwnDone p e below _ (T19.setTop (mkF m 78 #[.val (.ref ao), .val (.ref a2), .val (.ref a19), .val (.int (0 : Int32)), .val (.ref a2), .val (.int (2 : Int32)), .val (.int (0 : Int32)), .unset, .unset, .unset, .unset] [(.int (2 : Int32)), (.int (0 : Int32))]))
  refine OwnDone.go (A := (T19.setTop (mkF m 81 #[.val (.ref ao), .val (.ref a2), .val (.ref a19), .val (.int (0 : Int32)), .val (.ref a2), .val (.int (2 : Int32)), .val (.int (0 : Int32)), .unset, .unset, .unset, .unset] []))) (fun tQ kQ => XS.icmpNo P19.here hx rfl (hb hby dbm_78) rfl (XT.ii_ge_f (by decide)) kQ) ?_
  show OwnDone p e below _ (T19.setTop (mkF m 81 #[.val (.ref ao), .val (.ref a2), .val (.ref a19), .val (.int (0 : Int32)), .val (.ref a2), .val (.int (2 : Int32)), .val (.int (0 : Int32)), .unset, .unset, .unset, .unset] []))
  refine OwnDone.go (A := (T19.setTop (mkF m 101 #[.val (.ref ao), .val (.ref a2), .val (.ref a19), .val (.int (0 : Int32)), .val (.ref a2), .val (.int (2 : Int32)), .val (.int (0 : Int32)), .val (.long (own_pk fa la)), .second, .val (.int ((XT.ushrL (own_pk fa la) (32 : Int32)).toInt32)), .val (.int ((own_pk fa la).toInt32))] []))) (fun tQ kQ => ?_) ?_
  · refine XS.aload P19.here hx rfl (hb hby dbm_81) rfl rfl ?_
    show Steps p.tables e below (T19.setTop (mkF m 83 #[.val (.ref ao), .val (.ref a2), .val (.ref a19), .val (.int (0 : Int32)), .val (.ref a2), .val (.int (2 : Int32)), .val (.int (0 : Int32)), .unset, .unset, .unset, .unset] [(.ref a2)])) _
    refine XS.iload P19.here hx rfl (hb hby dbm_83) rfl ?_
    show Steps p.tables e below (T19.setTop (mkF m 85 #[.val (.ref ao), .val (.ref a2), .val (.ref a19), .val (.int (0 : Int32)), .val (.ref a2), .val (.int (2 : Int32)), .val (.int (0 : Int32)), .unset, .unset, .unset, .unset] [(.int (0 : Int32)), (.ref a2)])) _
    refine own_laload C P19 Y22_a2 (by decide) rfl dbm_85 ?_
    show Steps p.tables e below (T19.setTop (mkF m 86 #[.val (.ref ao), .val (.ref a2), .val (.ref a19), .val (.int (0 : Int32)), .val (.ref a2), .val (.int (2 : Int32)), .val (.int (0 : Int32)), .unset, .unset, .unset, .unset] [(.long (own_pk fa la))])) _
    refine XT.lstore P19.here hx rfl (hb hby dbm_86) rfl (l' := #[.val (.ref ao), .val (.ref a2), .val (.ref a19), .val (.int (0 : Int32)), .val (.ref a2), .val (.int (2 : Int32)), .val (.int (0 : Int32)), .val (.long (own_pk fa la)), .second, .unset, .unset]) rfl ?_
    show Steps p.tables e below (T19.setTop (mkF m 88 #[.val (.ref ao), .val (.ref a2), .val (.ref a19), .val (.int (0 : Int32)), .val (.ref a2), .val (.int (2 : Int32)), .val (.int (0 : Int32)), .val (.long (own_pk fa la)), .second, .unset, .unset] [])) _
    refine XT.lload P19.here hx rfl (hb hby dbm_88) rfl ?_
    show Steps p.tables e below (T19.setTop (mkF m 90 #[.val (.ref ao), .val (.ref a2), .val (.ref a19), .val (.int (0 : Int32)), .val (.ref a2), .val (.int (2 : Int32)), .val (.int (0 : Int32)), .val (.long (own_pk fa la)), .second, .unset, .unset] [(.long (own_pk fa la))])) _
    refine XS.bipush P19.here hx rfl (hb hby dbm_90) ?_
    show Steps p.tables e below (T19.setTop (mkF m 92 #[.val (.ref ao), .val (.ref a2), .val (.ref a19), .val (.int (0 : Int32)), .val (.ref a2), .val (.int (2 : Int32)), .val (.int (0 : Int32)), .val (.long (own_pk fa la)), .second, .unset, .unset] [(.int (32 : Int32)), (.long (own_pk fa la))])) _
    refine XT.lushr P19.here hx rfl (hb hby dbm_92) rfl ?_
    show Steps p.tables e below (T19.setTop (mkF m 93 #[.val (.ref ao), .val (.ref a2), .val (.ref a19), .val (.int (0 : Int32)), .val (.ref a2), .val (.int (2 : Int32)), .val (.int (0 : Int32)), .val (.long (own_pk fa la)), .second, .unset, .unset] [(.long (XT.ushrL (own_pk fa la) (32 : Int32)))])) _
    refine XT.l2i P19.here hx rfl (hb hby dbm_93) rfl ?_
    show Steps p.tables e below (T19.setTop (mkF m 94 #[.val (.ref ao), .val (.ref a2), .val (.ref a19), .val (.int (0 : Int32)), .val (.ref a2), .val (.int (2 : Int32)), .val (.int (0 : Int32)), .val (.long (own_pk fa la)), .second, .unset, .unset] [(.int ((XT.ushrL (own_pk fa la) (32 : Int32)).toInt32))])) _
    refine XS.istore P19.here hx rfl (hb hby dbm_94) rfl (l' := #[.val (.ref ao), .val (.ref a2), .val (.ref a19), .val (.int (0 : Int32)), .val (.ref a2), .val (.int (2 : Int32)), .val (.int (0 : Int32)), .val (.long (own_pk fa la)), .second, .val (.int ((XT.ushrL (own_pk fa la) (32 : Int32)).toInt32)), .unset]) rfl ?_
    show Steps p.tables e below (T19.setTop (mkF m 96 #[.val (.ref ao), .val (.ref a2), .val (.ref a19), .val (.int (0 : Int32)), .val (.ref a2), .val (.int (2 : Int32)), .val (.int (0 : Int32)), .val (.long (own_pk fa la)), .second, .val (.int ((XT.ushrL (own_pk fa la) (32 : Int32)).toInt32)), .unset] [])) _
    refine XT.lload P19.here hx rfl (hb hby dbm_96) rfl ?_
    show Steps p.tables e below (T19.setTop (mkF m 98 #[.val (.ref ao), .val (.ref a2), .val (.ref a19), .val (.int (0 : Int32)), .val (.ref a2), .val (.int (2 : Int32)), .val (.int (0 : Int32)), .val (.long (own_pk fa la)), .second, .val (.int ((XT.ushrL (own_pk fa la) (32 : Int32)).toInt32)), .unset] [(.long (own_pk fa la))])) _
    refine XT.l2i P19.here hx rfl (hb hby dbm_98) rfl ?_
    show Steps p.tables e below (T19.setTop (mkF m 99 #[.val (.ref ao), .val (.ref a2), .val (.ref a19), .val (.int (0 : Int32)), .val (.ref a2), .val (.int (2 : Int32)), .val (.int (0 : Int32)), .val (.long (own_pk fa la)), .second, .val (.int ((XT.ushrL (own_pk fa la) (32 : Int32)).toInt32)), .unset] [(.int ((own_pk fa la).toInt32))])) _
    refine XS.istore P19.here hx rfl (hb hby dbm_99) rfl (l' := #[.val (.ref ao), .val (.ref a2), .val (.ref a19), .val (.int (0 : Int32)), .val (.ref a2), .val (.int (2 : Int32)), .val (.int (0 : Int32)), .val (.long (own_pk fa la)), .second, .val (.int ((XT.ushrL (own_pk fa la) (32 : Int32)).toInt32)), .val (.int ((own_pk fa la).toInt32))]) rfl ?_
    show Steps p.tables e below (T19.setTop (mkF m 101 #[.val (.ref ao), .val (.ref a2), .val (.ref a19), .val (.int (0 : Int32)), .val (.ref a2), .val (.int (2 : Int32)), .val (.int (0 : Int32)), .val (.long (own_pk fa la)), .second, .val (.int ((XT.ushrL (own_pk fa la) (32 : Int32)).toInt32)), .val (.int ((own_pk fa la).toInt32))] [])) _
    exact kQ
  show OwnDone p e below _ (T19.setTop (mkF m 101 #[.val (.ref ao), .val (.ref a2), .val (.ref a19), .val (.int (0 : Int32)), .val (.ref a2), .val (.int (2 : Int32)), .val (.int (0 : Int32)), .val (.long (own_pk fa la)), .second, .val (.int ((XT.ushrL (own_pk fa la) (32 : Int32)).toInt32)), .val (.int ((own_pk fa la).toInt32))] []))
  rw [own_pk_f nn.1 nn.2.1, own_pk_l nn.1 nn.2.1]
  show OwnDone p e below _ (T19.setTop (mkF m 101 #[.val (.ref ao), .val (.ref a2), .val (.ref a19), .val (.int (0 : Int32)), .val (.ref a2), .val (.int (2 : Int32)), .val (.int (0 : Int32)), .val (.long (own_pk fa la)), .second, .val (.int fa), .val (.int la)] []))
  refine OwnDone.go (A := (T19.setTop (mkF m 102 #[.val (.ref ao), .val (.ref a2), .val (.ref a19), .val (.int (0 : Int32)), .val (.ref a2), .val (.int (2 : Int32)), .val (.int (0 : Int32)), .val (.long (own_pk fa la)), .second, .val (.int fa), .val (.int la)] [(.int (0 : Int32))]))) (fun tQ kQ => ?_) ?_
  · refine XS.iloadN P19.here hx rfl (hb hby dbm_101) rfl ?_
    show Steps p.tables e below (T19.setTop (mkF m 102 #[.val (.ref ao), .val (.ref a2), .val (.ref a19), .val (.int (0 : Int32)), .val (.ref a2), .val (.int (2 : Int32)), .val (.int (0 : Int32)), .val (.long (own_pk fa la)), .second, .val (.int fa), .val (.int la)] [(.int (0 : Int32))])) _
    exact kQ
  show OwnDone p e below _ (T19.setTop (mkF m 102 #[.val (.ref ao), .val (.ref a2), .val (.ref a19), .val (.int (0 : Int32)), .val (.ref a2), .val (.int (2 : Int32)), .val (.int (0 : Int32)), .val (.long (own_pk fa la)), .second, .val (.int fa), .val (.int la)] [(.int (0 : Int32))]))
  refine OwnDone.go (A := (T19.setTop (mkF m 135 #[.val (.ref ao), .val (.ref a2), .val (.ref a19), .val (.int (0 : Int32)), .val (.ref a2), .val (.int (2 : Int32)), .val (.int (0 : Int32)), .val (.long (own_pk fa la)), .second, .val (.int fa), .val (.int la)] []))) (fun tQ kQ => XS.ifYes P19.here hx rfl (pc0 := 102) (pc' := 135) rfl (hb hby dbm_102) rfl (XT.i0_le_t (by decide)) (by decide) (by decide) kQ) ?_
  show OwnDone p e below _ (T19.setTop (mkF m 135 #[.val (.ref ao), .val (.ref a2), .val (.ref a19), .val (.int (0 : Int32)), .val (.ref a2), .val (.int (2 : Int32)), .val (.int (0 : Int32)), .val (.long (own_pk fa la)), .second, .val (.int fa), .val (.int la)] []))
  refine OwnDone.go (A := (T19.setTop (mkF m 139 #[.val (.ref ao), .val (.ref a2), .val (.ref a19), .val (.int (0 : Int32)), .val (.ref a2), .val (.int (2 : Int32)), .val (.int (0 : Int32)), .val (.long (own_pk fa la)), .second, .val (.int fa), .val (.int la)] [(.int fa), (.int (0 : Int32)), (.ref a19)]))) (fun tQ kQ => ?_) ?_
  · refine XS.aloadN P19.here hx rfl (hb hby dbm_135) rfl rfl ?_
    show Steps p.tables e below (T19.setTop (mkF m 136 #[.val (.ref ao), .val (.ref a2), .val (.ref a19), .val (.int (0 : Int32)), .val (.ref a2), .val (.int (2 : Int32)), .val (.int (0 : Int32)), .val (.long (own_pk fa la)), .second, .val (.int fa), .val (.int la)] [(.ref a19)])) _
    refine XS.iloadN P19.here hx rfl (hb hby dbm_136) rfl ?_
    show Steps p.tables e below (T19.setTop (mkF m 137 #[.val (.ref ao), .val (.ref a2), .val (.ref a19), .val (.int (0 : Int32)), .val (.ref a2), .val (.int (2 : Int32)), .val (.int (0 : Int32)), .val (.long (own_pk fa la)), .second, .val (.int fa), .val (.int la)] [(.int (0 : Int32)), (.ref a19)])) _
    refine XS.iload P19.here hx rfl (hb hby dbm_137) rfl ?_
    show Steps p.tables e below (T19.setTop (mkF m 139 #[.val (.ref ao), .val (.ref a2), .val (.ref a19), .val (.int (0 : Int32)), .val (.ref a2), .val (.int (2 : Int32)), .val (.int (0 : Int32)), .val (.long (own_pk fa la)), .second, .val (.int fa), .val (.int la)] [(.int fa), (.int (0 : Int32)), (.ref a19)])) _
    exact kQ
  show OwnDone p e below _ (T19.setTop (mkF m 139 #[.val (.ref ao), .val (.ref a2), .val (.ref a19), .val (.int (0 : Int32)), .val (.ref a2), .val (.int (2 : Int32)), .val (.int (0 : Int32)), .val (.long (own_pk fa la)), .second, .val (.int fa), .val (.int la)] [(.int fa), (.int (0 : Int32)), (.ref a19)]))
  refine own_iastore C P19 Y19 (by decide) (show ((0 : Int32) : Int32).toNatClampNeg < 4 from by decide) (Or.inr ge_a19) dbm_139 (vs' := [(.int fa), (.int (0 : Int32)), (.int (0 : Int32)), (.int (0 : Int32))]) rfl (fun T23 h23 P23 K23 Y23 => ?_)
  have O24_ao := O20_ao.keep K23 (ninS ne_ao_a19 nin0)
  have Y25_b := Y21_b.keep K23 (ninS ne_b_a19 nin0)
  have Y26_a2 := Y22_a2.keep K23 (ninS ne_a2_a19 nin0)
  show OwnDone p e below _ (T23.setTop (mkF m 140 #[.val (.ref ao), .val (.ref a2), .val (.ref a19), .val (.int (0 : Int32)), .val (.ref a2), .val (.int (2 : Int32)), .val (.int (0 : Int32)), .val (.long (own_pk fa la)), .second, .val (.int fa), .val (.int la)] []))
  refine OwnDone.go (A := (T23.setTop (mkF m 146 #[.val (.ref ao), .val (.ref a2), .val (.ref a19), .val (.int (0 : Int32)), .val (.ref a2), .val (.int (2 : Int32)), .val (.int (0 : Int32)), .val (.long (own_pk fa la)), .second, .val (.int fa), .val (.int la)] [(.int la), (.int (1 : Int32)), (.ref a19)]))) (fun tQ kQ => ?_) ?_
  · refine XS.aloadN P23.here hx rfl (hb hby dbm_140) rfl rfl ?_
    show Steps p.tables e below (T23.setTop (mkF m 141 #[.val (.ref ao), .val (.ref a2), .val (.ref a19), .val (.int (0 : Int32)), .val (.ref a2), .val (.int (2 : Int32)), .val (.int (0 : Int32)), .val (.long (own_pk fa la)), .second, .val (.int fa), .val (.int la)] [(.ref a19)])) _
    refine XS.iloadN P23.here hx rfl (hb hby dbm_141) rfl ?_
    show Steps p.tables e below (T23.setTop (mkF m 142 #[.val (.ref ao), .val (.ref a2), .val (.ref a19), .val (.int (0 : Int32)), .val (.ref a2), .val (.int (2 : Int32)), .val (.int (0 : Int32)), .val (.long (own_pk fa la)), .second, .val (.int fa), .val (.int la)] [(.int (0 : Int32)), (.ref a19)])) _
    refine XS.iconst P23.here hx rfl (hb hby dbm_142) ?_
    show Steps p.tables e below (T23.setTop (mkF m 143 #[.val (.ref ao), .val (.ref a2), .val (.ref a19), .val (.int (0 : Int32)), .val (.ref a2), .val (.int (2 : Int32)), .val (.int (0 : Int32)), .val (.long (own_pk fa la)), .second, .val (.int fa), .val (.int la)] [(.int (1 : Int32)), (.int (0 : Int32)), (.ref a19)])) _
    refine XS.iadd P23.here hx rfl (hb hby dbm_143) rfl ?_
    show Steps p.tables e below (T23.setTop (mkF m 144 #[.val (.ref ao), .val (.ref a2), .val (.ref a19), .val (.int (0 : Int32)), .val (.ref a2), .val (.int (2 : Int32)), .val (.int (0 : Int32)), .val (.long (own_pk fa la)), .second, .val (.int fa), .val (.int la)] [(.int (1 : Int32)), (.ref a19)])) _
    refine XS.iload P23.here hx rfl (hb hby dbm_144) rfl ?_
    show Steps p.tables e below (T23.setTop (mkF m 146 #[.val (.ref ao), .val (.ref a2), .val (.ref a19), .val (.int (0 : Int32)), .val (.ref a2), .val (.int (2 : Int32)), .val (.int (0 : Int32)), .val (.long (own_pk fa la)), .second, .val (.int fa), .val (.int la)] [(.int la), (.int (1 : Int32)), (.ref a19)])) _
    exact kQ
  show OwnDone p e below _ (T23.setTop (mkF m 146 #[.val (.ref ao), .val (.ref a2), .val (.ref a19), .val (.int (0 : Int32)), .val (.ref a2), .val (.int (2 : Int32)), .val (.int (0 : Int32)), .val (.long (own_pk fa la)), .second, .val (.int fa), .val (.int la)] [(.int la), (.int (1 : Int32)), (.ref a19)]))
  refine own_iastore C P23 Y23 (by decide) (show ((1 : Int32) : Int32).toNatClampNeg < 4 from by decide) (Or.inr ge_a19) dbm_146 (vs' := [(.int fa), (.int la), (.int (0 : Int32)), (.int (0 : Int32))]) rfl (fun T27 h27 P27 K27 Y27 => ?_)
  have O28_ao := O24_ao.keep K27 (ninS ne_ao_a19 nin0)
  have Y29_b := Y25_b.keep K27 (ninS ne_b_a19 nin0)
  have Y30_a2 := Y26_a2.keep K27 (ninS ne_a2_a19 nin0)
  show OwnDone p e below _ (T27.setTop (mkF m 147 #[.val (.ref ao), .val (.ref a2), .val (.ref a19), .val (.int (0 : Int32)), .val (.ref a2), .val (.int (2 : Int32)), .val (.int (0 : Int32)), .val (.long (own_pk fa la)), .second, .val (.int fa), .val (.int la)] []))
  refine OwnDone.go (A := (T27.setTop (mkF m 150 #[.val (.ref ao), .val (.ref a2), .val (.ref a19), .val (.int (2 : Int32)), .val (.ref a2), .val (.int (2 : Int32)), .val (.int (0 : Int32)), .val (.long (own_pk fa la)), .second, .val (.int fa), .val (.int la)] []))) (fun tQ kQ => ?_) ?_
  · refine XS.iinc P27.here hx rfl (hb hby dbm_147) rfl (l' := #[.val (.ref ao), .val (.ref a2), .val (.ref a19), .val (.int (2 : Int32)), .val (.ref a2), .val (.int (2 : Int32)), .val (.int (0 : Int32)), .val (.long (own_pk fa la)), .second, .val (.int fa), .val (.int la)]) rfl ?_
    show Steps p.tables e below (T27.setTop (mkF m 150 #[.val (.ref ao), .val (.ref a2), .val (.ref a19), .val (.int (2 : Int32)), .val (.ref a2), .val (.int (2 : Int32)), .val (.int (0 : Int32)), .val (.long (own_pk fa la)), .second, .val (.int fa), .val (.int la)] [])) _
    exact kQ
  show OwnDone p e below _ (T27.setTop (mkF m 150 #[.val (.ref ao), .val (.ref a2), .val (.ref a19), .val (.int (2 : Int32)), .val (.ref a2), .val (.int (2 : Int32)), .val (.int (0 : Int32)), .val (.long (own_pk fa la)), .second, .val (.int fa), .val (.int la)] []))
  refine OwnDone.go (A := (T27.setTop (mkF m 78 #[.val (.ref ao), .val (.ref a2), .val (.ref a19), .val (.int (2 : Int32)), .val (.ref a2), .val (.int (2 : Int32)), .val (.int (1 : Int32)), .val (.long (own_pk fa la)), .second, .val (.int fa), .val (.int la)] [(.int (2 : Int32)), (.int (1 : Int32))]))) (fun tQ kQ => ?_) ?_
  · refine XS.iinc P27.here hx rfl (hb hby dbm_150) rfl (l' := #[.val (.ref ao), .val (.ref a2), .val (.ref a19), .val (.int (2 : Int32)), .val (.ref a2), .val (.int (2 : Int32)), .val (.int (1 : Int32)), .val (.long (own_pk fa la)), .second, .val (.int fa), .val (.int la)]) rfl ?_
    show Steps p.tables e below (T27.setTop (mkF m 153 #[.val (.ref ao), .val (.ref a2), .val (.ref a19), .val (.int (2 : Int32)), .val (.ref a2), .val (.int (2 : Int32)), .val (.int (1 : Int32)), .val (.long (own_pk fa la)), .second, .val (.int fa), .val (.int la)] [])) _
    refine XS.goto P27.here hx rfl (pc0 := 153) (pc' := 74) rfl (hb hby dbm_153) (by decide) (by decide) ?_
    show Steps p.tables e below (T27.setTop (mkF m 74 #[.val (.ref ao), .val (.ref a2), .val (.ref a19), .val (.int (2 : Int32)), .val (.ref a2), .val (.int (2 : Int32)), .val (.int (1 : Int32)), .val (.long (own_pk fa la)), .second, .val (.int fa), .val (.int la)] [])) _
    refine XS.iload P27.here hx rfl (hb hby dbm_74) rfl ?_
    show Steps p.tables e below (T27.setTop (mkF m 76 #[.val (.ref ao), .val (.ref a2), .val (.ref a19), .val (.int (2 : Int32)), .val (.ref a2), .val (.int (2 : Int32)), .val (.int (1 : Int32)), .val (.long (own_pk fa la)), .second, .val (.int fa), .val (.int la)] [(.int (1 : Int32))])) _
    refine XS.iload P27.here hx rfl (hb hby dbm_76) rfl ?_
    show Steps p.tables e below (T27.setTop (mkF m 78 #[.val (.ref ao), .val (.ref a2), .val (.ref a19), .val (.int (2 : Int32)), .val (.ref a2), .val (.int (2 : Int32)), .val (.int (1 : Int32)), .val (.long (own_pk fa la)), .second, .val (.int fa), .val (.int la)] [(.int (2 : Int32)), (.int (1 : Int32))])) _
    exact kQ
  show OwnDone p e below _ (T27.setTop (mkF m 78 #[.val (.ref ao), .val (.ref a2), .val (.ref a19), .val (.int (2 : Int32)), .val (.ref a2), .val (.int (2 : Int32)), .val (.int (1 : Int32)), .val (.long (own_pk fa la)), .second, .val (.int fa), .val (.int la)] [(.int (2 : Int32)), (.int (1 : Int32))]))
  refine OwnDone.go (A := (T27.setTop (mkF m 81 #[.val (.ref ao), .val (.ref a2), .val (.ref a19), .val (.int (2 : Int32)), .val (.ref a2), .val (.int (2 : Int32)), .val (.int (1 : Int32)), .val (.long (own_pk fa la)), .second, .val (.int fa), .val (.int la)] []))) (fun tQ kQ => XS.icmpNo P27.here hx rfl (hb hby dbm_78) rfl (XT.ii_ge_f (by decide)) kQ) ?_
  show OwnDone p e below _ (T27.setTop (mkF m 81 #[.val (.ref ao), .val (.ref a2), .val (.ref a19), .val (.int (2 : Int32)), .val (.ref a2), .val (.int (2 : Int32)), .val (.int (1 : Int32)), .val (.long (own_pk fa la)), .second, .val (.int fa), .val (.int la)] []))
  refine OwnDone.go (A := (T27.setTop (mkF m 101 #[.val (.ref ao), .val (.ref a2), .val (.ref a19), .val (.int (2 : Int32)), .val (.ref a2), .val (.int (2 : Int32)), .val (.int (1 : Int32)), .val (.long (own_pk fb lb)), .second, .val (.int ((XT.ushrL (own_pk fb lb) (32 : Int32)).toInt32)), .val (.int ((own_pk fb lb).toInt32))] []))) (fun tQ kQ => ?_) ?_
  · refine XS.aload P27.here hx rfl (hb hby dbm_81) rfl rfl ?_
    show Steps p.tables e below (T27.setTop (mkF m 83 #[.val (.ref ao), .val (.ref a2), .val (.ref a19), .val (.int (2 : Int32)), .val (.ref a2), .val (.int (2 : Int32)), .val (.int (1 : Int32)), .val (.long (own_pk fa la)), .second, .val (.int fa), .val (.int la)] [(.ref a2)])) _
    refine XS.iload P27.here hx rfl (hb hby dbm_83) rfl ?_
    show Steps p.tables e below (T27.setTop (mkF m 85 #[.val (.ref ao), .val (.ref a2), .val (.ref a19), .val (.int (2 : Int32)), .val (.ref a2), .val (.int (2 : Int32)), .val (.int (1 : Int32)), .val (.long (own_pk fa la)), .second, .val (.int fa), .val (.int la)] [(.int (1 : Int32)), (.ref a2)])) _
    refine own_laload C P27 Y30_a2 (by decide) rfl dbm_85 ?_
    show Steps p.tables e below (T27.setTop (mkF m 86 #[.val (.ref ao), .val (.ref a2), .val (.ref a19), .val (.int (2 : Int32)), .val (.ref a2), .val (.int (2 : Int32)), .val (.int (1 : Int32)), .val (.long (own_pk fa la)), .second, .val (.int fa), .val (.int la)] [(.long (own_pk fb lb))])) _
    refine XT.lstore P27.here hx rfl (hb hby dbm_86) rfl (l' := #[.val (.ref ao), .val (.ref a2), .val (.ref a19), .val (.int (2 : Int32)), .val (.ref a2), .val (.int (2 : Int32)), .val (.int (1 : Int32)), .val (.long (own_pk fb lb)), .second, .val (.int fa), .val (.int la)]) rfl ?_
    show Steps p.tables e below (T27.setTop (mkF m 88 #[.val (.ref ao), .val (.ref a2), .val (.ref a19), .val (.int (2 : Int32)), .val (.ref a2), .val (.int (2 : Int32)), .val (.int (1 : Int32)), .val (.long (own_pk fb lb)), .second, .val (.int fa), .val (.int la)] [])) _
    refine XT.lload P27.here hx rfl (hb hby dbm_88) rfl ?_
    show Steps p.tables e below (T27.setTop (mkF m 90 #[.val (.ref ao), .val (.ref a2), .val (.ref a19), .val (.int (2 : Int32)), .val (.ref a2), .val (.int (2 : Int32)), .val (.int (1 : Int32)), .val (.long (own_pk fb lb)), .second, .val (.int fa), .val (.int la)] [(.long (own_pk fb lb))])) _
    refine XS.bipush P27.here hx rfl (hb hby dbm_90) ?_
    show Steps p.tables e below (T27.setTop (mkF m 92 #[.val (.ref ao), .val (.ref a2), .val (.ref a19), .val (.int (2 : Int32)), .val (.ref a2), .val (.int (2 : Int32)), .val (.int (1 : Int32)), .val (.long (own_pk fb lb)), .second, .val (.int fa), .val (.int la)] [(.int (32 : Int32)), (.long (own_pk fb lb))])) _
    refine XT.lushr P27.here hx rfl (hb hby dbm_92) rfl ?_
    show Steps p.tables e below (T27.setTop (mkF m 93 #[.val (.ref ao), .val (.ref a2), .val (.ref a19), .val (.int (2 : Int32)), .val (.ref a2), .val (.int (2 : Int32)), .val (.int (1 : Int32)), .val (.long (own_pk fb lb)), .second, .val (.int fa), .val (.int la)] [(.long (XT.ushrL (own_pk fb lb) (32 : Int32)))])) _
    refine XT.l2i P27.here hx rfl (hb hby dbm_93) rfl ?_
    show Steps p.tables e below (T27.setTop (mkF m 94 #[.val (.ref ao), .val (.ref a2), .val (.ref a19), .val (.int (2 : Int32)), .val (.ref a2), .val (.int (2 : Int32)), .val (.int (1 : Int32)), .val (.long (own_pk fb lb)), .second, .val (.int fa), .val (.int la)] [(.int ((XT.ushrL (own_pk fb lb) (32 : Int32)).toInt32))])) _
    refine XS.istore P27.here hx rfl (hb hby dbm_94) rfl (l' := #[.val (.ref ao), .val (.ref a2), .val (.ref a19), .val (.int (2 : Int32)), .val (.ref a2), .val (.int (2 : Int32)), .val (.int (1 : Int32)), .val (.long (own_pk fb lb)), .second, .val (.int ((XT.ushrL (own_pk fb lb) (32 : Int32)).toInt32)), .val (.int la)]) rfl ?_
    show Steps p.tables e below (T27.setTop (mkF m 96 #[.val (.ref ao), .val (.ref a2), .val (.ref a19), .val (.int (2 : Int32)), .val (.ref a2), .val (.int (2 : Int32)), .val (.int (1 : Int32)), .val (.long (own_pk fb lb)), .second, .val (.int ((XT.ushrL (own_pk fb lb) (32 : Int32)).toInt32)), .val (.int la)] [])) _
    refine XT.lload P27.here hx rfl (hb hby dbm_96) rfl ?_
    show Steps p.tables e below (T27.setTop (mkF m 98 #[.val (.ref ao), .val (.ref a2), .val (.ref a19), .val (.int (2 : Int32)), .val (.ref a2), .val (.int (2 : Int32)), .val (.int (1 : Int32)), .val (.long (own_pk fb lb)), .second, .val (.int ((XT.ushrL (own_pk fb lb) (32 : Int32)).toInt32)), .val (.int la)] [(.long (own_pk fb lb))])) _
    refine XT.l2i P27.here hx rfl (hb hby dbm_98) rfl ?_
    show Steps p.tables e below (T27.setTop (mkF m 99 #[.val (.ref ao), .val (.ref a2), .val (.ref a19), .val (.int (2 : Int32)), .val (.ref a2), .val (.int (2 : Int32)), .val (.int (1 : Int32)), .val (.long (own_pk fb lb)), .second, .val (.int ((XT.ushrL (own_pk fb lb) (32 : Int32)).toInt32)), .val (.int la)] [(.int ((own_pk fb lb).toInt32))])) _
    refine XS.istore P27.here hx rfl (hb hby dbm_99) rfl (l' := #[.val (.ref ao), .val (.ref a2), .val (.ref a19), .val (.int (2 : Int32)), .val (.ref a2), .val (.int (2 : Int32)), .val (.int (1 : Int32)), .val (.long (own_pk fb lb)), .second, .val (.int ((XT.ushrL (own_pk fb lb) (32 : Int32)).toInt32)), .val (.int ((own_pk fb lb).toInt32))]) rfl ?_
    show Steps p.tables e below (T27.setTop (mkF m 101 #[.val (.ref ao), .val (.ref a2), .val (.ref a19), .val (.int (2 : Int32)), .val (.ref a2), .val (.int (2 : Int32)), .val (.int (1 : Int32)), .val (.long (own_pk fb lb)), .second, .val (.int ((XT.ushrL (own_pk fb lb) (32 : Int32)).toInt32)), .val (.int ((own_pk fb lb).toInt32))] [])) _
    exact kQ
  show OwnDone p e below _ (T27.setTop (mkF m 101 #[.val (.ref ao), .val (.ref a2), .val (.ref a19), .val (.int (2 : Int32)), .val (.ref a2), .val (.int (2 : Int32)), .val (.int (1 : Int32)), .val (.long (own_pk fb lb)), .second, .val (.int ((XT.ushrL (own_pk fb lb) (32 : Int32)).toInt32)), .val (.int ((own_pk fb lb).toInt32))] []))
  rw [own_pk_f nn.2.2.1 nn.2.2.2, own_pk_l nn.2.2.1 nn.2.2.2]
  show OwnDone p e below _ (T27.setTop (mkF m 101 #[.val (.ref ao), .val (.ref a2), .val (.ref a19), .val (.int (2 : Int32)), .val (.ref a2), .val (.int (2 : Int32)), .val (.int (1 : Int32)), .val (.long (own_pk fb lb)), .second, .val (.int fb), .val (.int lb)] []))
  refine OwnDone.go (A := (T27.setTop (mkF m 102 #[.val (.ref ao), .val (.ref a2), .val (.ref a19), .val (.int (2 : Int32)), .val (.ref a2), .val (.int (2 : Int32)), .val (.int (1 : Int32)), .val (.long (own_pk fb lb)), .second, .val (.int fb), .val (.int lb)] [(.int (2 : Int32))]))) (fun tQ kQ => ?_) ?_
  · refine XS.iloadN P27.here hx rfl (hb hby dbm_101) rfl ?_
    show Steps p.tables e below (T27.setTop (mkF m 102 #[.val (.ref ao), .val (.ref a2), .val (.ref a19), .val (.int (2 : Int32)), .val (.ref a2), .val (.int (2 : Int32)), .val (.int (1 : Int32)), .val (.long (own_pk fb lb)), .second, .val (.int fb), .val (.int lb)] [(.int (2 : Int32))])) _
    exact kQ
  show OwnDone p e below _ (T27.setTop (mkF m 102 #[.val (.ref ao), .val (.ref a2), .val (.ref a19), .val (.int (2 : Int32)), .val (.ref a2), .val (.int (2 : Int32)), .val (.int (1 : Int32)), .val (.long (own_pk fb lb)), .second, .val (.int fb), .val (.int lb)] [(.int (2 : Int32))]))
  refine OwnDone.go (A := (T27.setTop (mkF m 105 #[.val (.ref ao), .val (.ref a2), .val (.ref a19), .val (.int (2 : Int32)), .val (.ref a2), .val (.int (2 : Int32)), .val (.int (1 : Int32)), .val (.long (own_pk fb lb)), .second, .val (.int fb), .val (.int lb)] []))) (fun tQ kQ => XS.ifNo P27.here hx rfl (hb hby dbm_102) rfl (XT.i0_le_f (by decide)) kQ) ?_
  show OwnDone p e below _ (T27.setTop (mkF m 105 #[.val (.ref ao), .val (.ref a2), .val (.ref a19), .val (.int (2 : Int32)), .val (.ref a2), .val (.int (2 : Int32)), .val (.int (1 : Int32)), .val (.long (own_pk fb lb)), .second, .val (.int fb), .val (.int lb)] []))
  refine OwnDone.go (A := (T27.setTop (mkF m 114 #[.val (.ref ao), .val (.ref a2), .val (.ref a19), .val (.int (2 : Int32)), .val (.ref a2), .val (.int (2 : Int32)), .val (.int (1 : Int32)), .val (.long (own_pk fb lb)), .second, .val (.int fb), .val (.int lb)] [(.int (la + (1 : Int32))), (.int fb)]))) (fun tQ kQ => ?_) ?_
  · refine XS.iload P27.here hx rfl (hb hby dbm_105) rfl ?_
    show Steps p.tables e below (T27.setTop (mkF m 107 #[.val (.ref ao), .val (.ref a2), .val (.ref a19), .val (.int (2 : Int32)), .val (.ref a2), .val (.int (2 : Int32)), .val (.int (1 : Int32)), .val (.long (own_pk fb lb)), .second, .val (.int fb), .val (.int lb)] [(.int fb)])) _
    refine XS.aloadN P27.here hx rfl (hb hby dbm_107) rfl rfl ?_
    show Steps p.tables e below (T27.setTop (mkF m 108 #[.val (.ref ao), .val (.ref a2), .val (.ref a19), .val (.int (2 : Int32)), .val (.ref a2), .val (.int (2 : Int32)), .val (.int (1 : Int32)), .val (.long (own_pk fb lb)), .second, .val (.int fb), .val (.int lb)] [(.ref a19), (.int fb)])) _
    refine XS.iloadN P27.here hx rfl (hb hby dbm_108) rfl ?_
    show Steps p.tables e below (T27.setTop (mkF m 109 #[.val (.ref ao), .val (.ref a2), .val (.ref a19), .val (.int (2 : Int32)), .val (.ref a2), .val (.int (2 : Int32)), .val (.int (1 : Int32)), .val (.long (own_pk fb lb)), .second, .val (.int fb), .val (.int lb)] [(.int (2 : Int32)), (.ref a19), (.int fb)])) _
    refine XS.iconst P27.here hx rfl (hb hby dbm_109) ?_
    show Steps p.tables e below (T27.setTop (mkF m 110 #[.val (.ref ao), .val (.ref a2), .val (.ref a19), .val (.int (2 : Int32)), .val (.ref a2), .val (.int (2 : Int32)), .val (.int (1 : Int32)), .val (.long (own_pk fb lb)), .second, .val (.int fb), .val (.int lb)] [(.int (1 : Int32)), (.int (2 : Int32)), (.ref a19), (.int fb)])) _
    refine XS.isub P27.here hx rfl (hb hby dbm_110) rfl ?_
    show Steps p.tables e below (T27.setTop (mkF m 111 #[.val (.ref ao), .val (.ref a2), .val (.ref a19), .val (.int (2 : Int32)), .val (.ref a2), .val (.int (2 : Int32)), .val (.int (1 : Int32)), .val (.long (own_pk fb lb)), .second, .val (.int fb), .val (.int lb)] [(.int (1 : Int32)), (.ref a19), (.int fb)])) _
    refine own_iaload C P27 Y27 (by decide) rfl dbm_111 ?_
    show Steps p.tables e below (T27.setTop (mkF m 112 #[.val (.ref ao), .val (.ref a2), .val (.ref a19), .val (.int (2 : Int32)), .val (.ref a2), .val (.int (2 : Int32)), .val (.int (1 : Int32)), .val (.long (own_pk fb lb)), .second, .val (.int fb), .val (.int lb)] [(.int la), (.int fb)])) _
    refine XS.iconst P27.here hx rfl (hb hby dbm_112) ?_
    show Steps p.tables e below (T27.setTop (mkF m 113 #[.val (.ref ao), .val (.ref a2), .val (.ref a19), .val (.int (2 : Int32)), .val (.ref a2), .val (.int (2 : Int32)), .val (.int (1 : Int32)), .val (.long (own_pk fb lb)), .second, .val (.int fb), .val (.int lb)] [(.int (1 : Int32)), (.int la), (.int fb)])) _
    refine XS.iadd P27.here hx rfl (hb hby dbm_113) rfl ?_
    show Steps p.tables e below (T27.setTop (mkF m 114 #[.val (.ref ao), .val (.ref a2), .val (.ref a19), .val (.int (2 : Int32)), .val (.ref a2), .val (.int (2 : Int32)), .val (.int (1 : Int32)), .val (.long (own_pk fb lb)), .second, .val (.int fb), .val (.int lb)] [(.int (la + (1 : Int32))), (.int fb)])) _
    exact kQ
  show OwnDone p e below _ (T27.setTop (mkF m 114 #[.val (.ref ao), .val (.ref a2), .val (.ref a19), .val (.int (2 : Int32)), .val (.ref a2), .val (.int (2 : Int32)), .val (.int (1 : Int32)), .val (.long (own_pk fb lb)), .second, .val (.int fb), .val (.int lb)] [(.int (la + (1 : Int32))), (.int fb)]))
  refine OwnDone.go (A := (T27.setTop (mkF m 117 #[.val (.ref ao), .val (.ref a2), .val (.ref a19), .val (.int (2 : Int32)), .val (.ref a2), .val (.int (2 : Int32)), .val (.int (1 : Int32)), .val (.long (own_pk fb lb)), .second, .val (.int fb), .val (.int lb)] []))) (fun tQ kQ => XS.icmpNo P27.here hx rfl (hb hby dbm_114) rfl (XT.ii_gt_f hm) kQ) ?_
  show OwnDone p e below _ (T27.setTop (mkF m 117 #[.val (.ref ao), .val (.ref a2), .val (.ref a19), .val (.int (2 : Int32)), .val (.ref a2), .val (.int (2 : Int32)), .val (.int (1 : Int32)), .val (.long (own_pk fb lb)), .second, .val (.int fb), .val (.int lb)] []))
  refine OwnDone.go (A := (T27.setTop (mkF m 128 #[.val (.ref ao), .val (.ref a2), .val (.ref a19), .val (.int (2 : Int32)), .val (.ref a2), .val (.int (2 : Int32)), .val (.int (1 : Int32)), .val (.long (own_pk fb lb)), .second, .val (.int fb), .val (.int lb)] [(.int lb), (.int la), (.int (1 : Int32)), (.ref a19)]))) (fun tQ kQ => ?_) ?_
  · refine XS.aloadN P27.here hx rfl (hb hby dbm_117) rfl rfl ?_
    show Steps p.tables e below (T27.setTop (mkF m 118 #[.val (.ref ao), .val (.ref a2), .val (.ref a19), .val (.int (2 : Int32)), .val (.ref a2), .val (.int (2 : Int32)), .val (.int (1 : Int32)), .val (.long (own_pk fb lb)), .second, .val (.int fb), .val (.int lb)] [(.ref a19)])) _
    refine XS.iloadN P27.here hx rfl (hb hby dbm_118) rfl ?_
    show Steps p.tables e below (T27.setTop (mkF m 119 #[.val (.ref ao), .val (.ref a2), .val (.ref a19), .val (.int (2 : Int32)), .val (.ref a2), .val (.int (2 : Int32)), .val (.int (1 : Int32)), .val (.long (own_pk fb lb)), .second, .val (.int fb), .val (.int lb)] [(.int (2 : Int32)), (.ref a19)])) _
    refine XS.iconst P27.here hx rfl (hb hby dbm_119) ?_
    show Steps p.tables e below (T27.setTop (mkF m 120 #[.val (.ref ao), .val (.ref a2), .val (.ref a19), .val (.int (2 : Int32)), .val (.ref a2), .val (.int (2 : Int32)), .val (.int (1 : Int32)), .val (.long (own_pk fb lb)), .second, .val (.int fb), .val (.int lb)] [(.int (1 : Int32)), (.int (2 : Int32)), (.ref a19)])) _
    refine XS.isub P27.here hx rfl (hb hby dbm_120) rfl ?_
    show Steps p.tables e below (T27.setTop (mkF m 121 #[.val (.ref ao), .val (.ref a2), .val (.ref a19), .val (.int (2 : Int32)), .val (.ref a2), .val (.int (2 : Int32)), .val (.int (1 : Int32)), .val (.long (own_pk fb lb)), .second, .val (.int fb), .val (.int lb)] [(.int (1 : Int32)), (.ref a19)])) _
    refine XS.aloadN P27.here hx rfl (hb hby dbm_121) rfl rfl ?_
    show Steps p.tables e below (T27.setTop (mkF m 122 #[.val (.ref ao), .val (.ref a2), .val (.ref a19), .val (.int (2 : Int32)), .val (.ref a2), .val (.int (2 : Int32)), .val (.int (1 : Int32)), .val (.long (own_pk fb lb)), .second, .val (.int fb), .val (.int lb)] [(.ref a19), (.int (1 : Int32)), (.ref a19)])) _
    refine XS.iloadN P27.here hx rfl (hb hby dbm_122) rfl ?_
    show Steps p.tables e below (T27.setTop (mkF m 123 #[.val (.ref ao), .val (.ref a2), .val (.ref a19), .val (.int (2 : Int32)), .val (.ref a2), .val (.int (2 : Int32)), .val (.int (1 : Int32)), .val (.long (own_pk fb lb)), .second, .val (.int fb), .val (.int lb)] [(.int (2 : Int32)), (.ref a19), (.int (1 : Int32)), (.ref a19)])) _
    refine XS.iconst P27.here hx rfl (hb hby dbm_123) ?_
    show Steps p.tables e below (T27.setTop (mkF m 124 #[.val (.ref ao), .val (.ref a2), .val (.ref a19), .val (.int (2 : Int32)), .val (.ref a2), .val (.int (2 : Int32)), .val (.int (1 : Int32)), .val (.long (own_pk fb lb)), .second, .val (.int fb), .val (.int lb)] [(.int (1 : Int32)), (.int (2 : Int32)), (.ref a19), (.int (1 : Int32)), (.ref a19)])) _
    refine XS.isub P27.here hx rfl (hb hby dbm_124) rfl ?_
    show Steps p.tables e below (T27.setTop (mkF m 125 #[.val (.ref ao), .val (.ref a2), .val (.ref a19), .val (.int (2 : Int32)), .val (.ref a2), .val (.int (2 : Int32)), .val (.int (1 : Int32)), .val (.long (own_pk fb lb)), .second, .val (.int fb), .val (.int lb)] [(.int (1 : Int32)), (.ref a19), (.int (1 : Int32)), (.ref a19)])) _
    refine own_iaload C P27 Y27 (by decide) rfl dbm_125 ?_
    show Steps p.tables e below (T27.setTop (mkF m 126 #[.val (.ref ao), .val (.ref a2), .val (.ref a19), .val (.int (2 : Int32)), .val (.ref a2), .val (.int (2 : Int32)), .val (.int (1 : Int32)), .val (.long (own_pk fb lb)), .second, .val (.int fb), .val (.int lb)] [(.int la), (.int (1 : Int32)), (.ref a19)])) _
    refine XS.iload P27.here hx rfl (hb hby dbm_126) rfl ?_
    show Steps p.tables e below (T27.setTop (mkF m 128 #[.val (.ref ao), .val (.ref a2), .val (.ref a19), .val (.int (2 : Int32)), .val (.ref a2), .val (.int (2 : Int32)), .val (.int (1 : Int32)), .val (.long (own_pk fb lb)), .second, .val (.int fb), .val (.int lb)] [(.int lb), (.int la), (.int (1 : Int32)), (.ref a19)])) _
    exact kQ
  show OwnDone p e below _ (T27.setTop (mkF m 128 #[.val (.ref ao), .val (.ref a2), .val (.ref a19), .val (.int (2 : Int32)), .val (.ref a2), .val (.int (2 : Int32)), .val (.int (1 : Int32)), .val (.long (own_pk fb lb)), .second, .val (.int fb), .val (.int lb)] [(.int lb), (.int la), (.int (1 : Int32)), (.ref a19)]))
  refine own_callS (y := (⟨"java/lang/Math", "max", "(II)I"⟩ : MethodName)) C P27 (hw _ (List.mem_of_getElem? (i := 142) rfl)) (hw _ (List.mem_of_getElem? (i := 11) rfl)) (hw _ (List.mem_of_getElem? (i := 8) rfl)) (hw _ (List.mem_of_getElem? (i := 12) rfl)) (by decide) (rmmax l Z a0 hw la lb h27 P27.old) (as := [(.int la), (.int lb)]) (rest := [(.int (1 : Int32)), (.ref a19)]) pd_10 rfl rfl (wd := 2) rfl rfl dbm_128 all0 (by decide) (by decide) (by decide) (by decide) (fun T31 h31 v31 P31 K31 hQ31 => ?_)
  obtain ⟨r31, rfl, mx31, rfl⟩ := hQ31
  show OwnDone p e below _ (T31.setTop (mkF m 131 #[.val (.ref ao), .val (.ref a2), .val (.ref a19), .val (.int (2 : Int32)), .val (.ref a2), .val (.int (2 : Int32)), .val (.int (1 : Int32)), .val (.long (own_pk fb lb)), .second, .val (.int fb), .val (.int lb)] [(.int r31), (.int (1 : Int32)), (.ref a19)]))
  refine own_iastore C P31 Y27 (by decide) (show ((1 : Int32) : Int32).toNatClampNeg < 4 from by decide) (Or.inr ge_a19) dbm_131 (vs' := [(.int fa), (.int r31), (.int (0 : Int32)), (.int (0 : Int32))]) rfl (fun T32 h32 P32 K32 Y32 => ?_)
  have O33_ao := O28_ao.keep K32 (ninS ne_ao_a19 nin0)
  have Y34_b := Y29_b.keep K32 (ninS ne_b_a19 nin0)
  have Y35_a2 := Y30_a2.keep K32 (ninS ne_a2_a19 nin0)
  show OwnDone p e below _ (T32.setTop (mkF m 132 #[.val (.ref ao), .val (.ref a2), .val (.ref a19), .val (.int (2 : Int32)), .val (.ref a2), .val (.int (2 : Int32)), .val (.int (1 : Int32)), .val (.long (own_pk fb lb)), .second, .val (.int fb), .val (.int lb)] []))
  refine OwnDone.go (A := (T32.setTop (mkF m 150 #[.val (.ref ao), .val (.ref a2), .val (.ref a19), .val (.int (2 : Int32)), .val (.ref a2), .val (.int (2 : Int32)), .val (.int (1 : Int32)), .val (.long (own_pk fb lb)), .second, .val (.int fb), .val (.int lb)] []))) (fun tQ kQ => ?_) ?_
  · refine XS.goto P32.here hx rfl (pc0 := 132) (pc' := 150) rfl (hb hby dbm_132) (by decide) (by decide) ?_
    show Steps p.tables e below (T32.setTop (mkF m 150 #[.val (.ref ao), .val (.ref a2), .val (.ref a19), .val (.int (2 : Int32)), .val (.ref a2), .val (.int (2 : Int32)), .val (.int (1 : Int32)), .val (.long (own_pk fb lb)), .second, .val (.int fb), .val (.int lb)] [])) _
    exact kQ
  show OwnDone p e below _ (T32.setTop (mkF m 150 #[.val (.ref ao), .val (.ref a2), .val (.ref a19), .val (.int (2 : Int32)), .val (.ref a2), .val (.int (2 : Int32)), .val (.int (1 : Int32)), .val (.long (own_pk fb lb)), .second, .val (.int fb), .val (.int lb)] []))
  refine OwnDone.go (A := (T32.setTop (mkF m 78 #[.val (.ref ao), .val (.ref a2), .val (.ref a19), .val (.int (2 : Int32)), .val (.ref a2), .val (.int (2 : Int32)), .val (.int (2 : Int32)), .val (.long (own_pk fb lb)), .second, .val (.int fb), .val (.int lb)] [(.int (2 : Int32)), (.int (2 : Int32))]))) (fun tQ kQ => ?_) ?_
  · refine XS.iinc P32.here hx rfl (hb hby dbm_150) rfl (l' := #[.val (.ref ao), .val (.ref a2), .val (.ref a19), .val (.int (2 : Int32)), .val (.ref a2), .val (.int (2 : Int32)), .val (.int (2 : Int32)), .val (.long (own_pk fb lb)), .second, .val (.int fb), .val (.int lb)]) rfl ?_
    show Steps p.tables e below (T32.setTop (mkF m 153 #[.val (.ref ao), .val (.ref a2), .val (.ref a19), .val (.int (2 : Int32)), .val (.ref a2), .val (.int (2 : Int32)), .val (.int (2 : Int32)), .val (.long (own_pk fb lb)), .second, .val (.int fb), .val (.int lb)] [])) _
    refine XS.goto P32.here hx rfl (pc0 := 153) (pc' := 74) rfl (hb hby dbm_153) (by decide) (by decide) ?_
    show Steps p.tables e below (T32.setTop (mkF m 74 #[.val (.ref ao), .val (.ref a2), .val (.ref a19), .val (.int (2 : Int32)), .val (.ref a2), .val (.int (2 : Int32)), .val (.int (2 : Int32)), .val (.long (own_pk fb lb)), .second, .val (.int fb), .val (.int lb)] [])) _
    refine XS.iload P32.here hx rfl (hb hby dbm_74) rfl ?_
    show Steps p.tables e below (T32.setTop (mkF m 76 #[.val (.ref ao), .val (.ref a2), .val (.ref a19), .val (.int (2 : Int32)), .val (.ref a2), .val (.int (2 : Int32)), .val (.int (2 : Int32)), .val (.long (own_pk fb lb)), .second, .val (.int fb), .val (.int lb)] [(.int (2 : Int32))])) _
    refine XS.iload P32.here hx rfl (hb hby dbm_76) rfl ?_
    show Steps p.tables e below (T32.setTop (mkF m 78 #[.val (.ref ao), .val (.ref a2), .val (.ref a19), .val (.int (2 : Int32)), .val (.ref a2), .val (.int (2 : Int32)), .val (.int (2 : Int32)), .val (.long (own_pk fb lb)), .second, .val (.int fb), .val (.int lb)] [(.int (2 : Int32)), (.int (2 : Int32))])) _
    exact kQ
  show OwnDone p e below _ (T32.setTop (mkF m 78 #[.val (.ref ao), .val (.ref a2), .val (.ref a19), .val (.int (2 : Int32)), .val (.ref a2), .val (.int (2 : Int32)), .val (.int (2 : Int32)), .val (.long (own_pk fb lb)), .second, .val (.int fb), .val (.int lb)] [(.int (2 : Int32)), (.int (2 : Int32))]))
  refine OwnDone.go (A := (T32.setTop (mkF m 156 #[.val (.ref ao), .val (.ref a2), .val (.ref a19), .val (.int (2 : Int32)), .val (.ref a2), .val (.int (2 : Int32)), .val (.int (2 : Int32)), .val (.long (own_pk fb lb)), .second, .val (.int fb), .val (.int lb)] []))) (fun tQ kQ => XS.icmpYes P32.here hx rfl (pc0 := 78) (pc' := 156) rfl (hb hby dbm_78) rfl (XT.ii_ge_t (by decide)) (by decide) (by decide) kQ) ?_
  show OwnDone p e below _ (T32.setTop (mkF m 156 #[.val (.ref ao), .val (.ref a2), .val (.ref a19), .val (.int (2 : Int32)), .val (.ref a2), .val (.int (2 : Int32)), .val (.int (2 : Int32)), .val (.long (own_pk fb lb)), .second, .val (.int fb), .val (.int lb)] []))
  refine own_new (vs := [.null, (.int (0 : Int32)), (.long (0 : Int64)), (.long (0 : Int64))]) C P32 (hw _ (List.mem_of_getElem? (i := 143) rfl)) (hw _ (List.mem_of_getElem? (i := 144) rfl)) (hw _ (List.mem_of_getElem? (i := 145) rfl)) (own_laid4 hw) (by decide +kernel) dbm_156 (by decide) (by decide) (fun T36 h36 a36 ga36 la36 P36 K36 O36 => ?_)
  have ge_a36 : h0.size ≤ a36 := by rw [ga36]; exact P32.keep.1
  have ne_ao_a36 : ao ≠ a36 := by rw [ga36]; exact Nat.ne_of_lt O33_ao.lt
  have ne_b_a36 : b ≠ a36 := by rw [ga36]; exact Nat.ne_of_lt Y34_b.lt
  have ne_a2_a36 : a2 ≠ a36 := by rw [ga36]; exact Nat.ne_of_lt Y35_a2.lt
  have ne_a19_a36 : a19 ≠ a36 := by rw [ga36]; exact Nat.ne_of_lt Y32.lt
  have O37_ao := O33_ao.keep K36 nin0
  have Y38_b := Y34_b.keep K36 nin0
  have Y39_a2 := Y35_a2.keep K36 nin0
  have Y40_a19 := Y32.keep K36 nin0
  show OwnDone p e below _ (T36.setTop (mkF m 159 #[.val (.ref ao), .val (.ref a2), .val (.ref a19), .val (.int (2 : Int32)), .val (.ref a2), .val (.int (2 : Int32)), .val (.int (2 : Int32)), .val (.long (own_pk fb lb)), .second, .val (.int fb), .val (.int lb)] [(.ref a36)]))
  refine OwnDone.go (A := (T36.setTop (mkF m 162 #[.val (.ref ao), .val (.ref a2), .val (.ref a19), .val (.int (2 : Int32)), .val (.ref a2), .val (.int (2 : Int32)), .val (.int (2 : Int32)), .val (.long (own_pk fb lb)), .second, .val (.int fb), .val (.int lb)] [(.int (2 : Int32)), (.ref a19), (.ref a36), (.ref a36)]))) (fun tQ kQ => ?_) ?_
  · refine XS.dup P36.here hx rfl (hb hby dbm_159) rfl rfl ?_
    show Steps p.tables e below (T36.setTop (mkF m 160 #[.val (.ref ao), .val (.ref a2), .val (.ref a19), .val (.int (2 : Int32)), .val (.ref a2), .val (.int (2 : Int32)), .val (.int (2 : Int32)), .val (.long (own_pk fb lb)), .second, .val (.int fb), .val (.int lb)] [(.ref a36), (.ref a36)])) _
    refine XS.aloadN P36.here hx rfl (hb hby dbm_160) rfl rfl ?_
    show Steps p.tables e below (T36.setTop (mkF m 161 #[.val (.ref ao), .val (.ref a2), .val (.ref a19), .val (.int (2 : Int32)), .val (.ref a2), .val (.int (2 : Int32)), .val (.int (2 : Int32)), .val (.long (own_pk fb lb)), .second, .val (.int fb), .val (.int lb)] [(.ref a19), (.ref a36), (.ref a36)])) _
    refine XS.iloadN P36.here hx rfl (hb hby dbm_161) rfl ?_
    show Steps p.tables e below (T36.setTop (mkF m 162 #[.val (.ref ao), .val (.ref a2), .val (.ref a19), .val (.int (2 : Int32)), .val (.ref a2), .val (.int (2 : Int32)), .val (.int (2 : Int32)), .val (.long (own_pk fb lb)), .second, .val (.int fb), .val (.int lb)] [(.int (2 : Int32)), (.ref a19), (.ref a36), (.ref a36)])) _
    exact kQ
  show OwnDone p e below _ (T36.setTop (mkF m 162 #[.val (.ref ao), .val (.ref a2), .val (.ref a19), .val (.int (2 : Int32)), .val (.ref a2), .val (.int (2 : Int32)), .val (.int (2 : Int32)), .val (.long (own_pk fb lb)), .second, .val (.int fb), .val (.int lb)] [(.int (2 : Int32)), (.ref a19), (.ref a36), (.ref a36)]))
  refine own_callS (y := (⟨"java/util/Arrays", "copyOf", "([II)[I"⟩ : MethodName)) C P36 (hw _ (List.mem_of_getElem? (i := 146) rfl)) (hw _ (List.mem_of_getElem? (i := 147) rfl)) (hw _ (List.mem_of_getElem? (i := 130) rfl)) (hw _ (List.mem_of_getElem? (i := 148) rfl)) (by decide) (rmco2 l Z a0 hw a19 k19 fa r31 (0 : Int32) (0 : Int32) h36 P36.old Y40_a19 N19) (as := [(.ref a19), (.int (2 : Int32))]) (rest := [(.ref a36), (.ref a36)]) pd_15 rfl rfl (wd := 2) rfl rfl dbm_162 all0 (by decide) (by decide) (by decide) (by decide) (fun T41 h41 v41 P41 K41 hQ41 => ?_)
  obtain ⟨rc41, kc41, rfl, Y41, gr41, N41⟩ := hQ41
  have O42_ao := O37_ao.keep K41 nin0
  have O43_a36 := O36.keep K41 nin0
  have Y44_b := Y38_b.keep K41 nin0
  have Y45_a2 := Y39_a2.keep K41 nin0
  have Y46_a19 := Y40_a19.keep K41 nin0
  have ge_rc41 : h0.size ≤ rc41 := Nat.le_trans P36.keep.1 gr41
  have ne_ao_rc41 : ao ≠ rc41 := Nat.ne_of_lt (Nat.lt_of_lt_of_le O37_ao.lt gr41)
  have ne_a36_rc41 : a36 ≠ rc41 := Nat.ne_of_lt (Nat.lt_of_lt_of_le O36.lt gr41)
  have ne_b_rc41 : b ≠ rc41 := Nat.ne_of_lt (Nat.lt_of_lt_of_le Y38_b.lt gr41)
  have ne_a2_rc41 : a2 ≠ rc41 := Nat.ne_of_lt (Nat.lt_of_lt_of_le Y39_a2.lt gr41)
  have ne_a19_rc41 : a19 ≠ rc41 := Nat.ne_of_lt (Nat.lt_of_lt_of_le Y40_a19.lt gr41)
  show OwnDone p e below _ (T41.setTop (mkF m 165 #[.val (.ref ao), .val (.ref a2), .val (.ref a19), .val (.int (2 : Int32)), .val (.ref a2), .val (.int (2 : Int32)), .val (.int (2 : Int32)), .val (.long (own_pk fb lb)), .second, .val (.int fb), .val (.int lb)] [(.ref rc41), (.ref a36), (.ref a36)]))
  refine own_callIN (y := (⟨"com/example/bounded_array/boundedarray/regex/CodePointSet", "<init>", "([I)V"⟩ : MethodName)) C P41 rfl (hw _ (List.mem_of_getElem? (i := 154) rfl)) (hw _ (List.mem_of_getElem? (i := 155) rfl)) (hw _ (List.mem_of_getElem? (i := 145) rfl)) (hw _ (List.mem_of_getElem? (i := 156) rfl)) (by decide) (rmci2 l Z a0 hw a36 rc41 kc41 fa r31 h41 P41.old (Nat.le_trans hE.1 ge_a36) O43_a36 Y41 N41 ne_a36_rc41) (as := [(.ref rc41)]) (rest := [(.ref a36)]) pd_16 rfl rfl (wd := 1) rfl rfl dbm_165 (allS (Or.inr ge_a36) all0) (by decide) (by decide) (by decide) (by decide) (fun T47 h47 v47 P47 K47 hQ47 => ?_)
  obtain ⟨rfl, hs47, lo47, hi47, O47⟩ := hQ47
  have O48_ao := O42_ao.keep K47 (ninS ne_ao_a36 nin0)
  have Y49_b := Y44_b.keep K47 (ninS ne_b_a36 nin0)
  have Y50_a2 := Y45_a2.keep K47 (ninS ne_a2_a36 nin0)
  have Y51_a19 := Y46_a19.keep K47 (ninS ne_a19_a36 nin0)
  have Y52_rc41 := Y41.keep K47 (ninS (Ne.symm ne_a36_rc41) nin0)
  show OwnDone p e below _ (T47.setTop (mkF m 168 #[.val (.ref ao), .val (.ref a2), .val (.ref a19), .val (.int (2 : Int32)), .val (.ref a2), .val (.int (2 : Int32)), .val (.int (2 : Int32)), .val (.long (own_pk fb lb)), .second, .val (.int fb), .val (.int lb)] [(.ref a36)]))
  refine own_retA C P47 rfl rfl dbm_168 (by decide) (by decide) ⟨_, _, _, _, _, _, _, rfl, O47, Y52_rc41, mx31⟩
theorem dcp_0 : decode method_2_code 0 = .ok (.iload_n 1, 1) := by decide +kernel
theorem dcp_1 : decode method_2_code 1 = .ok (.ifCond .eq 8, 3) := by decide +kernel
theorem dcp_4 : decode method_2_code 4 = .ok (.iload_n 0, 1) := by decide +kernel
theorem dcp_5 : decode method_2_code 5 = .ok (.bipush 15, 2) := by decide +kernel
theorem dcp_7 : decode method_2_code 7 = .ok (.iand, 1) := by decide +kernel
theorem dcp_8 : decode method_2_code 8 = .ok (.ireturn, 1) := by decide +kernel
theorem dcp_9 : decode method_2_code 9 = .ok (.iload_n 0, 1) := by decide +kernel
theorem dcp_10 : decode method_2_code 10 = .ok (.ldc 7, 2) := by decide +kernel
theorem dcp_12 : decode method_2_code 12 = .ok (.iand, 1) := by decide +kernel
theorem dcp_13 : decode method_2_code 13 = .ok (.ldc 8, 2) := by decide +kernel
theorem dcp_15 : decode method_2_code 15 = .ok (.irem, 1) := by decide +kernel
theorem dcp_16 : decode method_2_code 16 = .ok (.ireturn, 1) := by decide +kernel
theorem pncp : plainName "com/example/bounded_array/boundedarray/regex/BuilderAddPinLaw" = true := by first | (simp [plainName, overriddenIn]; done) | decide +kernel
theorem efcp (m : MethodId) (x : Int32) (sm : Int32)  : entryFrame m #[(.int x), (.int sm)] 2 = mkF m 0 #[.val (.int x), .val (.int sm)] [] := by first | (simp [entryFrame, mkF, argsToLocals, Value.category]; done) | rfl
set_option maxRecDepth 65536 in
set_option maxHeartbeats 40000000 in
theorem rmcp (l : Launch) (Z : State) (a0 : Array Value) (hw : ∀ d ∈ tables_1, d.before a0 Z = true) (x : Int32) (sm : Int32)  (h0 : Heap) (hE : Ext Z.heap h0)   :
    OwnMeets l (⟨"com/example/bounded_array/boundedarray/regex/BuilderAddPinLaw", "cp", "(IZ)I"⟩ : MethodName) method_2_code 2 (some .int) ({ frames := 0, cells := 0, slots := 0, locals := 0 } : Room) Z [] #[(.int x), (.int sm)] h0 (fun v h => ∃ r : Int32, v = some (.int r) ∧ (0 ≤ r.toInt ∧ r.toInt < 1114112) ∧ h0 = h) := by
  refine OwnMeets.of (plainFor_of_name pncp) hE all0 ?_
  intro p e s m below meth c T C P
  have hx := C.1
  have hby := C.2.2.2.2.1
  rw [show entryFrame m #[(.int x), (.int sm)] 2 = _ from efcp m x sm]
  show OwnDone p e below _ (T.setTop (mkF m 0 #[.val (.int x), .val (.int sm)] []))
  refine OwnDone.go (A := (T.setTop (mkF m 1 #[.val (.int x), .val (.int sm)] [(.int sm)]))) (fun tQ kQ => ?_) ?_
  · refine XS.iloadN P.here hx rfl (hb hby dcp_0) rfl ?_
    show Steps p.tables e below (T.setTop (mkF m 1 #[.val (.int x), .val (.int sm)] [(.int sm)])) _
    exact kQ
  show OwnDone p e below _ (T.setTop (mkF m 1 #[.val (.int x), .val (.int sm)] [(.int sm)]))
  by_cases hc1 : sm = (0 : Int32)
  · refine OwnDone.go (A := (T.setTop (mkF m 9 #[.val (.int x), .val (.int sm)] []))) (fun tQ kQ => XS.ifYes P.here hx rfl (pc0 := 1) (pc' := 9) rfl (hb hby dcp_1) rfl (XT.i0_eq_t hc1) (by decide) (by decide) kQ) ?_
    show OwnDone p e below _ (T.setTop (mkF m 9 #[.val (.int x), .val (.int sm)] []))
    refine OwnDone.go (A := (T.setTop (mkF m 16 #[.val (.int x), .val (.int sm)] [(.int ((x &&& (2147483647 : Int32)) % (1114112 : Int32)))]))) (fun tQ kQ => ?_) ?_
    · refine XS.iloadN P.here hx rfl (hb hby dcp_9) rfl ?_
      show Steps p.tables e below (T.setTop (mkF m 10 #[.val (.int x), .val (.int sm)] [(.int x)])) _
      refine own_ldc C P (hw _ (List.mem_of_getElem? (i := 4) rfl)) dcp_10 ?_
      show Steps p.tables e below (T.setTop (mkF m 12 #[.val (.int x), .val (.int sm)] [(.int (2147483647 : Int32)), (.int x)])) _
      refine XS.iand P.here hx rfl (hb hby dcp_12) rfl ?_
      show Steps p.tables e below (T.setTop (mkF m 13 #[.val (.int x), .val (.int sm)] [(.int (x &&& (2147483647 : Int32)))])) _
      refine own_ldc C P (hw _ (List.mem_of_getElem? (i := 5) rfl)) dcp_13 ?_
      show Steps p.tables e below (T.setTop (mkF m 15 #[.val (.int x), .val (.int sm)] [(.int (1114112 : Int32)), (.int (x &&& (2147483647 : Int32)))])) _
      refine own_irem C P (by decide) dcp_15 ?_
      show Steps p.tables e below (T.setTop (mkF m 16 #[.val (.int x), .val (.int sm)] [(.int ((x &&& (2147483647 : Int32)) % (1114112 : Int32)))])) _
      exact kQ
    show OwnDone p e below _ (T.setTop (mkF m 16 #[.val (.int x), .val (.int sm)] [(.int ((x &&& (2147483647 : Int32)) % (1114112 : Int32)))]))
    refine own_retI C P dcp_16 (by decide) (by decide) ⟨_, rfl, own_cpB _, rfl⟩
  · refine OwnDone.go (A := (T.setTop (mkF m 4 #[.val (.int x), .val (.int sm)] []))) (fun tQ kQ => XS.ifNo P.here hx rfl (hb hby dcp_1) rfl (XT.i0_eq_f hc1) kQ) ?_
    show OwnDone p e below _ (T.setTop (mkF m 4 #[.val (.int x), .val (.int sm)] []))
    refine OwnDone.go (A := (T.setTop (mkF m 8 #[.val (.int x), .val (.int sm)] [(.int (x &&& (15 : Int32)))]))) (fun tQ kQ => ?_) ?_
    · refine XS.iloadN P.here hx rfl (hb hby dcp_4) rfl ?_
      show Steps p.tables e below (T.setTop (mkF m 5 #[.val (.int x), .val (.int sm)] [(.int x)])) _
      refine XS.bipush P.here hx rfl (hb hby dcp_5) ?_
      show Steps p.tables e below (T.setTop (mkF m 7 #[.val (.int x), .val (.int sm)] [(.int (15 : Int32)), (.int x)])) _
      refine XS.iand P.here hx rfl (hb hby dcp_7) rfl ?_
      show Steps p.tables e below (T.setTop (mkF m 8 #[.val (.int x), .val (.int sm)] [(.int (x &&& (15 : Int32)))])) _
      exact kQ
    show OwnDone p e below _ (T.setTop (mkF m 8 #[.val (.int x), .val (.int sm)] [(.int (x &&& (15 : Int32)))]))
    refine own_retI C P dcp_8 (by decide) (by decide) ⟨_, rfl, own_cpA _, rfl⟩
theorem pn0 : plainName "com/example/bounded_array/boundedarray/regex/BuilderAddPinLaw" = true := by first | (simp [plainName, overriddenIn]; done) | decide +kernel
theorem ef0 (m : MethodId) (i1 : Int32) (i2 : Int32) (i3 : Int32) (i4 : Int32) (i5 : Int32)  : entryFrame m #[(.int i1), (.int i2), (.int i3), (.int i4), (.int i5)] maxLocals = mkF m 0 #[.val (.int i1), .val (.int i2), .val (.int i3), .val (.int i4), .val (.int i5), .unset, .unset, .unset, .unset, .unset, .unset, .unset, .unset, .unset, .unset, .unset, .unset, .unset, .unset, .unset, .unset] [] := by first | (simp [entryFrame, mkF, argsToLocals, Value.category, maxLocals]; done) | rfl
set_option maxRecDepth 65536 in
set_option maxHeartbeats 40000000 in
theorem rm0 (l : Launch) (Z : State) (a0 : Array Value) (hw : ∀ d ∈ tables_1, d.before a0 Z = true) (i1 : Int32) (i2 : Int32) (i3 : Int32) (i4 : Int32) (i5 : Int32)  (h0 : Heap) (hE : Ext Z.heap h0)   :
    OwnMeets l x code maxLocals ret room_1 Z [] #[(.int i1), (.int i2), (.int i3), (.int i4), (.int i5)] h0 (fun v h => v = some (.int 1)) := by
  refine OwnMeets.of (plainFor_of_name pn0) hE all0 ?_
  intro p e s m below meth c T C P
  have hx := C.1
  have hby := C.2.2.2.2.1
  rw [show entryFrame m #[(.int i1), (.int i2), (.int i3), (.int i4), (.int i5)] maxLocals = _ from ef0 m i1 i2 i3 i4 i5]
  show OwnDone p e below _ (T.setTop (mkF m 0 #[.val (.int i1), .val (.int i2), .val (.int i3), .val (.int i4), .val (.int i5), .unset, .unset, .unset, .unset, .unset, .unset, .unset, .unset, .unset, .unset, .unset, .unset, .unset, .unset, .unset, .unset] []))
  refine OwnDone.go (A := (T.setTop (mkF m 4 #[.val (.int i1), .val (.int i2), .val (.int i3), .val (.int i4), .val (.int i5), .unset, .unset, .unset, .unset, .unset, .unset, .unset, .unset, .unset, .unset, .unset, .unset, .unset, .unset, .unset, .unset] [(.int (i5 &&& (1 : Int32)))]))) (fun tQ kQ => ?_) ?_
  · refine XS.iload P.here hx rfl (hb hby at_0) rfl ?_
    show Steps p.tables e below (T.setTop (mkF m 2 #[.val (.int i1), .val (.int i2), .val (.int i3), .val (.int i4), .val (.int i5), .unset, .unset, .unset, .unset, .unset, .unset, .unset, .unset, .unset, .unset, .unset, .unset, .unset, .unset, .unset, .unset] [(.int i5)])) _
    refine XS.iconst P.here hx rfl (hb hby at_2) ?_
    show Steps p.tables e below (T.setTop (mkF m 3 #[.val (.int i1), .val (.int i2), .val (.int i3), .val (.int i4), .val (.int i5), .unset, .unset, .unset, .unset, .unset, .unset, .unset, .unset, .unset, .unset, .unset, .unset, .unset, .unset, .unset, .unset] [(.int (1 : Int32)), (.int i5)])) _
    refine XS.iand P.here hx rfl (hb hby at_3) rfl ?_
    show Steps p.tables e below (T.setTop (mkF m 4 #[.val (.int i1), .val (.int i2), .val (.int i3), .val (.int i4), .val (.int i5), .unset, .unset, .unset, .unset, .unset, .unset, .unset, .unset, .unset, .unset, .unset, .unset, .unset, .unset, .unset, .unset] [(.int (i5 &&& (1 : Int32)))])) _
    exact kQ
  show OwnDone p e below _ (T.setTop (mkF m 4 #[.val (.int i1), .val (.int i2), .val (.int i3), .val (.int i4), .val (.int i5), .unset, .unset, .unset, .unset, .unset, .unset, .unset, .unset, .unset, .unset, .unset, .unset, .unset, .unset, .unset, .unset] [(.int (i5 &&& (1 : Int32)))]))
  suffices K1 : ∀ zz1 : Value, zz1 = (.int (if (i5 &&& (1 : Int32)) = (0 : Int32) then (0 : Int32) else (1 : Int32))) → OwnDone p e below _ (T.setTop (mkF m 12 #[.val (.int i1), .val (.int i2), .val (.int i3), .val (.int i4), .val (.int i5), .unset, .unset, .unset, .unset, .unset, .unset, .unset, .unset, .unset, .unset, .unset, .unset, .unset, .unset, .unset, .unset] [zz1])) from by
    by_cases hc4 : (i5 &&& (1 : Int32)) = (0 : Int32)
    · refine OwnDone.go (A := (T.setTop (mkF m 11 #[.val (.int i1), .val (.int i2), .val (.int i3), .val (.int i4), .val (.int i5), .unset, .unset, .unset, .unset, .unset, .unset, .unset, .unset, .unset, .unset, .unset, .unset, .unset, .unset, .unset, .unset] []))) (fun tQ kQ => XS.ifYes P.here hx rfl (pc0 := 4) (pc' := 11) rfl (hb hby at_4) rfl (XT.i0_eq_t hc4) (by decide) (by decide) kQ) ?_
      show OwnDone p e below _ (T.setTop (mkF m 11 #[.val (.int i1), .val (.int i2), .val (.int i3), .val (.int i4), .val (.int i5), .unset, .unset, .unset, .unset, .unset, .unset, .unset, .unset, .unset, .unset, .unset, .unset, .unset, .unset, .unset, .unset] []))
      refine OwnDone.go (A := (T.setTop (mkF m 12 #[.val (.int i1), .val (.int i2), .val (.int i3), .val (.int i4), .val (.int i5), .unset, .unset, .unset, .unset, .unset, .unset, .unset, .unset, .unset, .unset, .unset, .unset, .unset, .unset, .unset, .unset] [(.int (0 : Int32))]))) (fun tQ kQ => ?_) ?_
      · refine XS.iconst P.here hx rfl (hb hby at_11) ?_
        show Steps p.tables e below (T.setTop (mkF m 12 #[.val (.int i1), .val (.int i2), .val (.int i3), .val (.int i4), .val (.int i5), .unset, .unset, .unset, .unset, .unset, .unset, .unset, .unset, .unset, .unset, .unset, .unset, .unset, .unset, .unset, .unset] [(.int (0 : Int32))])) _
        exact kQ
      show OwnDone p e below _ (T.setTop (mkF m 12 #[.val (.int i1), .val (.int i2), .val (.int i3), .val (.int i4), .val (.int i5), .unset, .unset, .unset, .unset, .unset, .unset, .unset, .unset, .unset, .unset, .unset, .unset, .unset, .unset, .unset, .unset] [(.int (0 : Int32))]))
      exact K1 _ (show ((.int (if (i5 &&& (1 : Int32)) = (0 : Int32) then (0 : Int32) else (1 : Int32))) : Value) = (.int (0 : Int32)) from by first | rw [if_pos hc4] | rw [if_neg hc4]).symm
    · refine OwnDone.go (A := (T.setTop (mkF m 7 #[.val (.int i1), .val (.int i2), .val (.int i3), .val (.int i4), .val (.int i5), .unset, .unset, .unset, .unset, .unset, .unset, .unset, .unset, .unset, .unset, .unset, .unset, .unset, .unset, .unset, .unset] []))) (fun tQ kQ => XS.ifNo P.here hx rfl (hb hby at_4) rfl (XT.i0_eq_f hc4) kQ) ?_
      show OwnDone p e below _ (T.setTop (mkF m 7 #[.val (.int i1), .val (.int i2), .val (.int i3), .val (.int i4), .val (.int i5), .unset, .unset, .unset, .unset, .unset, .unset, .unset, .unset, .unset, .unset, .unset, .unset, .unset, .unset, .unset, .unset] []))
      refine OwnDone.go (A := (T.setTop (mkF m 12 #[.val (.int i1), .val (.int i2), .val (.int i3), .val (.int i4), .val (.int i5), .unset, .unset, .unset, .unset, .unset, .unset, .unset, .unset, .unset, .unset, .unset, .unset, .unset, .unset, .unset, .unset] [(.int (1 : Int32))]))) (fun tQ kQ => ?_) ?_
      · refine XS.iconst P.here hx rfl (hb hby at_7) ?_
        show Steps p.tables e below (T.setTop (mkF m 8 #[.val (.int i1), .val (.int i2), .val (.int i3), .val (.int i4), .val (.int i5), .unset, .unset, .unset, .unset, .unset, .unset, .unset, .unset, .unset, .unset, .unset, .unset, .unset, .unset, .unset, .unset] [(.int (1 : Int32))])) _
        refine XS.goto P.here hx rfl (pc0 := 8) (pc' := 12) rfl (hb hby at_8) (by decide) (by decide) ?_
        show Steps p.tables e below (T.setTop (mkF m 12 #[.val (.int i1), .val (.int i2), .val (.int i3), .val (.int i4), .val (.int i5), .unset, .unset, .unset, .unset, .unset, .unset, .unset, .unset, .unset, .unset, .unset, .unset, .unset, .unset, .unset, .unset] [(.int (1 : Int32))])) _
        exact kQ
      show OwnDone p e below _ (T.setTop (mkF m 12 #[.val (.int i1), .val (.int i2), .val (.int i3), .val (.int i4), .val (.int i5), .unset, .unset, .unset, .unset, .unset, .unset, .unset, .unset, .unset, .unset, .unset, .unset, .unset, .unset, .unset, .unset] [(.int (1 : Int32))]))
      exact K1 _ (show ((.int (if (i5 &&& (1 : Int32)) = (0 : Int32) then (0 : Int32) else (1 : Int32))) : Value) = (.int (1 : Int32)) from by first | rw [if_pos hc4] | rw [if_neg hc4]).symm
  intro zz1 hzz1
  subst hzz1
  show OwnDone p e below _ (T.setTop (mkF m 12 #[.val (.int i1), .val (.int i2), .val (.int i3), .val (.int i4), .val (.int i5), .unset, .unset, .unset, .unset, .unset, .unset, .unset, .unset, .unset, .unset, .unset, .unset, .unset, .unset, .unset, .unset] [(.int (if (i5 &&& (1 : Int32)) = (0 : Int32) then (0 : Int32) else (1 : Int32)))]))
  refine OwnDone.go (A := (T.setTop (mkF m 14 #[.val (.int i1), .val (.int i2), .val (.int i3), .val (.int i4), .val (.int i5), .val (.int (if (i5 &&& (1 : Int32)) = (0 : Int32) then (0 : Int32) else (1 : Int32))), .unset, .unset, .unset, .unset, .unset, .unset, .unset, .unset, .unset, .unset, .unset, .unset, .unset, .unset, .unset] []))) (fun tQ kQ => ?_) ?_
  · refine XS.istore P.here hx rfl (hb hby at_12) rfl (l' := #[.val (.int i1), .val (.int i2), .val (.int i3), .val (.int i4), .val (.int i5), .val (.int (if (i5 &&& (1 : Int32)) = (0 : Int32) then (0 : Int32) else (1 : Int32))), .unset, .unset, .unset, .unset, .unset, .unset, .unset, .unset, .unset, .unset, .unset, .unset, .unset, .unset, .unset]) rfl ?_
    show Steps p.tables e below (T.setTop (mkF m 14 #[.val (.int i1), .val (.int i2), .val (.int i3), .val (.int i4), .val (.int i5), .val (.int (if (i5 &&& (1 : Int32)) = (0 : Int32) then (0 : Int32) else (1 : Int32))), .unset, .unset, .unset, .unset, .unset, .unset, .unset, .unset, .unset, .unset, .unset, .unset, .unset, .unset, .unset] [])) _
    exact kQ
  show OwnDone p e below _ (T.setTop (mkF m 14 #[.val (.int i1), .val (.int i2), .val (.int i3), .val (.int i4), .val (.int i5), .val (.int (if (i5 &&& (1 : Int32)) = (0 : Int32) then (0 : Int32) else (1 : Int32))), .unset, .unset, .unset, .unset, .unset, .unset, .unset, .unset, .unset, .unset, .unset, .unset, .unset, .unset, .unset] []))
  generalize (if (i5 &&& (1 : Int32)) = (0 : Int32) then (0 : Int32) else (1 : Int32)) = s1
  show OwnDone p e below _ (T.setTop (mkF m 14 #[.val (.int i1), .val (.int i2), .val (.int i3), .val (.int i4), .val (.int i5), .val (.int s1), .unset, .unset, .unset, .unset, .unset, .unset, .unset, .unset, .unset, .unset, .unset, .unset, .unset, .unset, .unset] []))
  refine OwnDone.go (A := (T.setTop (mkF m 18 #[.val (.int i1), .val (.int i2), .val (.int i3), .val (.int i4), .val (.int i5), .val (.int s1), .unset, .unset, .unset, .unset, .unset, .unset, .unset, .unset, .unset, .unset, .unset, .unset, .unset, .unset, .unset] [(.int (i5 &&& (2 : Int32)))]))) (fun tQ kQ => ?_) ?_
  · refine XS.iload P.here hx rfl (hb hby at_14) rfl ?_
    show Steps p.tables e below (T.setTop (mkF m 16 #[.val (.int i1), .val (.int i2), .val (.int i3), .val (.int i4), .val (.int i5), .val (.int s1), .unset, .unset, .unset, .unset, .unset, .unset, .unset, .unset, .unset, .unset, .unset, .unset, .unset, .unset, .unset] [(.int i5)])) _
    refine XS.iconst P.here hx rfl (hb hby at_16) ?_
    show Steps p.tables e below (T.setTop (mkF m 17 #[.val (.int i1), .val (.int i2), .val (.int i3), .val (.int i4), .val (.int i5), .val (.int s1), .unset, .unset, .unset, .unset, .unset, .unset, .unset, .unset, .unset, .unset, .unset, .unset, .unset, .unset, .unset] [(.int (2 : Int32)), (.int i5)])) _
    refine XS.iand P.here hx rfl (hb hby at_17) rfl ?_
    show Steps p.tables e below (T.setTop (mkF m 18 #[.val (.int i1), .val (.int i2), .val (.int i3), .val (.int i4), .val (.int i5), .val (.int s1), .unset, .unset, .unset, .unset, .unset, .unset, .unset, .unset, .unset, .unset, .unset, .unset, .unset, .unset, .unset] [(.int (i5 &&& (2 : Int32)))])) _
    exact kQ
  show OwnDone p e below _ (T.setTop (mkF m 18 #[.val (.int i1), .val (.int i2), .val (.int i3), .val (.int i4), .val (.int i5), .val (.int s1), .unset, .unset, .unset, .unset, .unset, .unset, .unset, .unset, .unset, .unset, .unset, .unset, .unset, .unset, .unset] [(.int (i5 &&& (2 : Int32)))]))
  suffices K2 : ∀ zz2 : Value, zz2 = (.int (if (i5 &&& (2 : Int32)) = (0 : Int32) then (0 : Int32) else (1 : Int32))) → OwnDone p e below _ (T.setTop (mkF m 26 #[.val (.int i1), .val (.int i2), .val (.int i3), .val (.int i4), .val (.int i5), .val (.int s1), .unset, .unset, .unset, .unset, .unset, .unset, .unset, .unset, .unset, .unset, .unset, .unset, .unset, .unset, .unset] [zz2])) from by
    by_cases hc18 : (i5 &&& (2 : Int32)) = (0 : Int32)
    · refine OwnDone.go (A := (T.setTop (mkF m 25 #[.val (.int i1), .val (.int i2), .val (.int i3), .val (.int i4), .val (.int i5), .val (.int s1), .unset, .unset, .unset, .unset, .unset, .unset, .unset, .unset, .unset, .unset, .unset, .unset, .unset, .unset, .unset] []))) (fun tQ kQ => XS.ifYes P.here hx rfl (pc0 := 18) (pc' := 25) rfl (hb hby at_18) rfl (XT.i0_eq_t hc18) (by decide) (by decide) kQ) ?_
      show OwnDone p e below _ (T.setTop (mkF m 25 #[.val (.int i1), .val (.int i2), .val (.int i3), .val (.int i4), .val (.int i5), .val (.int s1), .unset, .unset, .unset, .unset, .unset, .unset, .unset, .unset, .unset, .unset, .unset, .unset, .unset, .unset, .unset] []))
      refine OwnDone.go (A := (T.setTop (mkF m 26 #[.val (.int i1), .val (.int i2), .val (.int i3), .val (.int i4), .val (.int i5), .val (.int s1), .unset, .unset, .unset, .unset, .unset, .unset, .unset, .unset, .unset, .unset, .unset, .unset, .unset, .unset, .unset] [(.int (0 : Int32))]))) (fun tQ kQ => ?_) ?_
      · refine XS.iconst P.here hx rfl (hb hby at_25) ?_
        show Steps p.tables e below (T.setTop (mkF m 26 #[.val (.int i1), .val (.int i2), .val (.int i3), .val (.int i4), .val (.int i5), .val (.int s1), .unset, .unset, .unset, .unset, .unset, .unset, .unset, .unset, .unset, .unset, .unset, .unset, .unset, .unset, .unset] [(.int (0 : Int32))])) _
        exact kQ
      show OwnDone p e below _ (T.setTop (mkF m 26 #[.val (.int i1), .val (.int i2), .val (.int i3), .val (.int i4), .val (.int i5), .val (.int s1), .unset, .unset, .unset, .unset, .unset, .unset, .unset, .unset, .unset, .unset, .unset, .unset, .unset, .unset, .unset] [(.int (0 : Int32))]))
      exact K2 _ (show ((.int (if (i5 &&& (2 : Int32)) = (0 : Int32) then (0 : Int32) else (1 : Int32))) : Value) = (.int (0 : Int32)) from by first | rw [if_pos hc18] | rw [if_neg hc18]).symm
    · refine OwnDone.go (A := (T.setTop (mkF m 21 #[.val (.int i1), .val (.int i2), .val (.int i3), .val (.int i4), .val (.int i5), .val (.int s1), .unset, .unset, .unset, .unset, .unset, .unset, .unset, .unset, .unset, .unset, .unset, .unset, .unset, .unset, .unset] []))) (fun tQ kQ => XS.ifNo P.here hx rfl (hb hby at_18) rfl (XT.i0_eq_f hc18) kQ) ?_
      show OwnDone p e below _ (T.setTop (mkF m 21 #[.val (.int i1), .val (.int i2), .val (.int i3), .val (.int i4), .val (.int i5), .val (.int s1), .unset, .unset, .unset, .unset, .unset, .unset, .unset, .unset, .unset, .unset, .unset, .unset, .unset, .unset, .unset] []))
      refine OwnDone.go (A := (T.setTop (mkF m 26 #[.val (.int i1), .val (.int i2), .val (.int i3), .val (.int i4), .val (.int i5), .val (.int s1), .unset, .unset, .unset, .unset, .unset, .unset, .unset, .unset, .unset, .unset, .unset, .unset, .unset, .unset, .unset] [(.int (1 : Int32))]))) (fun tQ kQ => ?_) ?_
      · refine XS.iconst P.here hx rfl (hb hby at_21) ?_
        show Steps p.tables e below (T.setTop (mkF m 22 #[.val (.int i1), .val (.int i2), .val (.int i3), .val (.int i4), .val (.int i5), .val (.int s1), .unset, .unset, .unset, .unset, .unset, .unset, .unset, .unset, .unset, .unset, .unset, .unset, .unset, .unset, .unset] [(.int (1 : Int32))])) _
        refine XS.goto P.here hx rfl (pc0 := 22) (pc' := 26) rfl (hb hby at_22) (by decide) (by decide) ?_
        show Steps p.tables e below (T.setTop (mkF m 26 #[.val (.int i1), .val (.int i2), .val (.int i3), .val (.int i4), .val (.int i5), .val (.int s1), .unset, .unset, .unset, .unset, .unset, .unset, .unset, .unset, .unset, .unset, .unset, .unset, .unset, .unset, .unset] [(.int (1 : Int32))])) _
        exact kQ
      show OwnDone p e below _ (T.setTop (mkF m 26 #[.val (.int i1), .val (.int i2), .val (.int i3), .val (.int i4), .val (.int i5), .val (.int s1), .unset, .unset, .unset, .unset, .unset, .unset, .unset, .unset, .unset, .unset, .unset, .unset, .unset, .unset, .unset] [(.int (1 : Int32))]))
      exact K2 _ (show ((.int (if (i5 &&& (2 : Int32)) = (0 : Int32) then (0 : Int32) else (1 : Int32))) : Value) = (.int (1 : Int32)) from by first | rw [if_pos hc18] | rw [if_neg hc18]).symm
  intro zz2 hzz2
  subst hzz2
  show OwnDone p e below _ (T.setTop (mkF m 26 #[.val (.int i1), .val (.int i2), .val (.int i3), .val (.int i4), .val (.int i5), .val (.int s1), .unset, .unset, .unset, .unset, .unset, .unset, .unset, .unset, .unset, .unset, .unset, .unset, .unset, .unset, .unset] [(.int (if (i5 &&& (2 : Int32)) = (0 : Int32) then (0 : Int32) else (1 : Int32)))]))
  refine OwnDone.go (A := (T.setTop (mkF m 28 #[.val (.int i1), .val (.int i2), .val (.int i3), .val (.int i4), .val (.int i5), .val (.int s1), .val (.int (if (i5 &&& (2 : Int32)) = (0 : Int32) then (0 : Int32) else (1 : Int32))), .unset, .unset, .unset, .unset, .unset, .unset, .unset, .unset, .unset, .unset, .unset, .unset, .unset, .unset] []))) (fun tQ kQ => ?_) ?_
  · refine XS.istore P.here hx rfl (hb hby at_26) rfl (l' := #[.val (.int i1), .val (.int i2), .val (.int i3), .val (.int i4), .val (.int i5), .val (.int s1), .val (.int (if (i5 &&& (2 : Int32)) = (0 : Int32) then (0 : Int32) else (1 : Int32))), .unset, .unset, .unset, .unset, .unset, .unset, .unset, .unset, .unset, .unset, .unset, .unset, .unset, .unset]) rfl ?_
    show Steps p.tables e below (T.setTop (mkF m 28 #[.val (.int i1), .val (.int i2), .val (.int i3), .val (.int i4), .val (.int i5), .val (.int s1), .val (.int (if (i5 &&& (2 : Int32)) = (0 : Int32) then (0 : Int32) else (1 : Int32))), .unset, .unset, .unset, .unset, .unset, .unset, .unset, .unset, .unset, .unset, .unset, .unset, .unset, .unset] [])) _
    exact kQ
  show OwnDone p e below _ (T.setTop (mkF m 28 #[.val (.int i1), .val (.int i2), .val (.int i3), .val (.int i4), .val (.int i5), .val (.int s1), .val (.int (if (i5 &&& (2 : Int32)) = (0 : Int32) then (0 : Int32) else (1 : Int32))), .unset, .unset, .unset, .unset, .unset, .unset, .unset, .unset, .unset, .unset, .unset, .unset, .unset, .unset] []))
  generalize (if (i5 &&& (2 : Int32)) = (0 : Int32) then (0 : Int32) else (1 : Int32)) = s2
  show OwnDone p e below _ (T.setTop (mkF m 28 #[.val (.int i1), .val (.int i2), .val (.int i3), .val (.int i4), .val (.int i5), .val (.int s1), .val (.int s2), .unset, .unset, .unset, .unset, .unset, .unset, .unset, .unset, .unset, .unset, .unset, .unset, .unset, .unset] []))
  refine OwnDone.go (A := (T.setTop (mkF m 31 #[.val (.int i1), .val (.int i2), .val (.int i3), .val (.int i4), .val (.int i5), .val (.int s1), .val (.int s2), .unset, .unset, .unset, .unset, .unset, .unset, .unset, .unset, .unset, .unset, .unset, .unset, .unset, .unset] [(.int s1), (.int i1)]))) (fun tQ kQ => ?_) ?_
  · refine XS.iloadN P.here hx rfl (hb hby at_28) rfl ?_
    show Steps p.tables e below (T.setTop (mkF m 29 #[.val (.int i1), .val (.int i2), .val (.int i3), .val (.int i4), .val (.int i5), .val (.int s1), .val (.int s2), .unset, .unset, .unset, .unset, .unset, .unset, .unset, .unset, .unset, .unset, .unset, .unset, .unset, .unset] [(.int i1)])) _
    refine XS.iload P.here hx rfl (hb hby at_29) rfl ?_
    show Steps p.tables e below (T.setTop (mkF m 31 #[.val (.int i1), .val (.int i2), .val (.int i3), .val (.int i4), .val (.int i5), .val (.int s1), .val (.int s2), .unset, .unset, .unset, .unset, .unset, .unset, .unset, .unset, .unset, .unset, .unset, .unset, .unset, .unset] [(.int s1), (.int i1)])) _
    exact kQ
  show OwnDone p e below _ (T.setTop (mkF m 31 #[.val (.int i1), .val (.int i2), .val (.int i3), .val (.int i4), .val (.int i5), .val (.int s1), .val (.int s2), .unset, .unset, .unset, .unset, .unset, .unset, .unset, .unset, .unset, .unset, .unset, .unset, .unset, .unset] [(.int s1), (.int i1)]))
  refine own_callS (y := (⟨"com/example/bounded_array/boundedarray/regex/BuilderAddPinLaw", "cp", "(IZ)I"⟩ : MethodName)) C P (hw _ (List.mem_of_getElem? (i := 0) rfl)) (hw _ (List.mem_of_getElem? (i := 1) rfl)) (hw _ (List.mem_of_getElem? (i := 2) rfl)) (hw _ (List.mem_of_getElem? (i := 3) rfl)) (by decide) (rmcp l Z a0 hw i1 s1 h0 P.old) (as := [(.int i1), (.int s1)]) (rest := []) pd_17 rfl rfl (wd := 0) rfl rfl at_31 all0 (by decide) (by decide) (by decide) (by decide) (fun T3 h3 v3 P3 K3 hQ3 => ?_)
  obtain ⟨r3, rfl, cb3, rfl⟩ := hQ3
  show OwnDone p e below _ (T3.setTop (mkF m 34 #[.val (.int i1), .val (.int i2), .val (.int i3), .val (.int i4), .val (.int i5), .val (.int s1), .val (.int s2), .unset, .unset, .unset, .unset, .unset, .unset, .unset, .unset, .unset, .unset, .unset, .unset, .unset, .unset] [(.int r3)]))
  refine OwnDone.go (A := (T3.setTop (mkF m 39 #[.val (.int i1), .val (.int i2), .val (.int i3), .val (.int i4), .val (.int i5), .val (.int s1), .val (.int s2), .val (.int r3), .unset, .unset, .unset, .unset, .unset, .unset, .unset, .unset, .unset, .unset, .unset, .unset, .unset] [(.int s1), (.int i2)]))) (fun tQ kQ => ?_) ?_
  · refine XS.istore P3.here hx rfl (hb hby at_34) rfl (l' := #[.val (.int i1), .val (.int i2), .val (.int i3), .val (.int i4), .val (.int i5), .val (.int s1), .val (.int s2), .val (.int r3), .unset, .unset, .unset, .unset, .unset, .unset, .unset, .unset, .unset, .unset, .unset, .unset, .unset]) rfl ?_
    show Steps p.tables e below (T3.setTop (mkF m 36 #[.val (.int i1), .val (.int i2), .val (.int i3), .val (.int i4), .val (.int i5), .val (.int s1), .val (.int s2), .val (.int r3), .unset, .unset, .unset, .unset, .unset, .unset, .unset, .unset, .unset, .unset, .unset, .unset, .unset] [])) _
    refine XS.iloadN P3.here hx rfl (hb hby at_36) rfl ?_
    show Steps p.tables e below (T3.setTop (mkF m 37 #[.val (.int i1), .val (.int i2), .val (.int i3), .val (.int i4), .val (.int i5), .val (.int s1), .val (.int s2), .val (.int r3), .unset, .unset, .unset, .unset, .unset, .unset, .unset, .unset, .unset, .unset, .unset, .unset, .unset] [(.int i2)])) _
    refine XS.iload P3.here hx rfl (hb hby at_37) rfl ?_
    show Steps p.tables e below (T3.setTop (mkF m 39 #[.val (.int i1), .val (.int i2), .val (.int i3), .val (.int i4), .val (.int i5), .val (.int s1), .val (.int s2), .val (.int r3), .unset, .unset, .unset, .unset, .unset, .unset, .unset, .unset, .unset, .unset, .unset, .unset, .unset] [(.int s1), (.int i2)])) _
    exact kQ
  show OwnDone p e below _ (T3.setTop (mkF m 39 #[.val (.int i1), .val (.int i2), .val (.int i3), .val (.int i4), .val (.int i5), .val (.int s1), .val (.int s2), .val (.int r3), .unset, .unset, .unset, .unset, .unset, .unset, .unset, .unset, .unset, .unset, .unset, .unset, .unset] [(.int s1), (.int i2)]))
  refine own_callS (y := (⟨"com/example/bounded_array/boundedarray/regex/BuilderAddPinLaw", "cp", "(IZ)I"⟩ : MethodName)) C P3 (hw _ (List.mem_of_getElem? (i := 0) rfl)) (hw _ (List.mem_of_getElem? (i := 1) rfl)) (hw _ (List.mem_of_getElem? (i := 2) rfl)) (hw _ (List.mem_of_getElem? (i := 3) rfl)) (by decide) (rmcp l Z a0 hw i2 s1 h0 P3.old) (as := [(.int i2), (.int s1)]) (rest := []) pd_17 rfl rfl (wd := 0) rfl rfl at_39 all0 (by decide) (by decide) (by decide) (by decide) (fun T4 h4 v4 P4 K4 hQ4 => ?_)
  obtain ⟨r4, rfl, cb4, rfl⟩ := hQ4
  show OwnDone p e below _ (T4.setTop (mkF m 42 #[.val (.int i1), .val (.int i2), .val (.int i3), .val (.int i4), .val (.int i5), .val (.int s1), .val (.int s2), .val (.int r3), .unset, .unset, .unset, .unset, .unset, .unset, .unset, .unset, .unset, .unset, .unset, .unset, .unset] [(.int r4)]))
  refine OwnDone.go (A := (T4.setTop (mkF m 47 #[.val (.int i1), .val (.int i2), .val (.int i3), .val (.int i4), .val (.int i5), .val (.int s1), .val (.int s2), .val (.int r3), .val (.int r4), .unset, .unset, .unset, .unset, .unset, .unset, .unset, .unset, .unset, .unset, .unset, .unset] [(.int s2), (.int i3)]))) (fun tQ kQ => ?_) ?_
  · refine XS.istore P4.here hx rfl (hb hby at_42) rfl (l' := #[.val (.int i1), .val (.int i2), .val (.int i3), .val (.int i4), .val (.int i5), .val (.int s1), .val (.int s2), .val (.int r3), .val (.int r4), .unset, .unset, .unset, .unset, .unset, .unset, .unset, .unset, .unset, .unset, .unset, .unset]) rfl ?_
    show Steps p.tables e below (T4.setTop (mkF m 44 #[.val (.int i1), .val (.int i2), .val (.int i3), .val (.int i4), .val (.int i5), .val (.int s1), .val (.int s2), .val (.int r3), .val (.int r4), .unset, .unset, .unset, .unset, .unset, .unset, .unset, .unset, .unset, .unset, .unset, .unset] [])) _
    refine XS.iloadN P4.here hx rfl (hb hby at_44) rfl ?_
    show Steps p.tables e below (T4.setTop (mkF m 45 #[.val (.int i1), .val (.int i2), .val (.int i3), .val (.int i4), .val (.int i5), .val (.int s1), .val (.int s2), .val (.int r3), .val (.int r4), .unset, .unset, .unset, .unset, .unset, .unset, .unset, .unset, .unset, .unset, .unset, .unset] [(.int i3)])) _
    refine XS.iload P4.here hx rfl (hb hby at_45) rfl ?_
    show Steps p.tables e below (T4.setTop (mkF m 47 #[.val (.int i1), .val (.int i2), .val (.int i3), .val (.int i4), .val (.int i5), .val (.int s1), .val (.int s2), .val (.int r3), .val (.int r4), .unset, .unset, .unset, .unset, .unset, .unset, .unset, .unset, .unset, .unset, .unset, .unset] [(.int s2), (.int i3)])) _
    exact kQ
  show OwnDone p e below _ (T4.setTop (mkF m 47 #[.val (.int i1), .val (.int i2), .val (.int i3), .val (.int i4), .val (.int i5), .val (.int s1), .val (.int s2), .val (.int r3), .val (.int r4), .unset, .unset, .unset, .unset, .unset, .unset, .unset, .unset, .unset, .unset, .unset, .unset] [(.int s2), (.int i3)]))
  refine own_callS (y := (⟨"com/example/bounded_array/boundedarray/regex/BuilderAddPinLaw", "cp", "(IZ)I"⟩ : MethodName)) C P4 (hw _ (List.mem_of_getElem? (i := 0) rfl)) (hw _ (List.mem_of_getElem? (i := 1) rfl)) (hw _ (List.mem_of_getElem? (i := 2) rfl)) (hw _ (List.mem_of_getElem? (i := 3) rfl)) (by decide) (rmcp l Z a0 hw i3 s2 h0 P4.old) (as := [(.int i3), (.int s2)]) (rest := []) pd_17 rfl rfl (wd := 0) rfl rfl at_47 all0 (by decide) (by decide) (by decide) (by decide) (fun T5 h5 v5 P5 K5 hQ5 => ?_)
  obtain ⟨r5, rfl, cb5, rfl⟩ := hQ5
  show OwnDone p e below _ (T5.setTop (mkF m 50 #[.val (.int i1), .val (.int i2), .val (.int i3), .val (.int i4), .val (.int i5), .val (.int s1), .val (.int s2), .val (.int r3), .val (.int r4), .unset, .unset, .unset, .unset, .unset, .unset, .unset, .unset, .unset, .unset, .unset, .unset] [(.int r5)]))
  refine OwnDone.go (A := (T5.setTop (mkF m 55 #[.val (.int i1), .val (.int i2), .val (.int i3), .val (.int i4), .val (.int i5), .val (.int s1), .val (.int s2), .val (.int r3), .val (.int r4), .val (.int r5), .unset, .unset, .unset, .unset, .unset, .unset, .unset, .unset, .unset, .unset, .unset] [(.int s2), (.int i4)]))) (fun tQ kQ => ?_) ?_
  · refine XS.istore P5.here hx rfl (hb hby at_50) rfl (l' := #[.val (.int i1), .val (.int i2), .val (.int i3), .val (.int i4), .val (.int i5), .val (.int s1), .val (.int s2), .val (.int r3), .val (.int r4), .val (.int r5), .unset, .unset, .unset, .unset, .unset, .unset, .unset, .unset, .unset, .unset, .unset]) rfl ?_
    show Steps p.tables e below (T5.setTop (mkF m 52 #[.val (.int i1), .val (.int i2), .val (.int i3), .val (.int i4), .val (.int i5), .val (.int s1), .val (.int s2), .val (.int r3), .val (.int r4), .val (.int r5), .unset, .unset, .unset, .unset, .unset, .unset, .unset, .unset, .unset, .unset, .unset] [])) _
    refine XS.iloadN P5.here hx rfl (hb hby at_52) rfl ?_
    show Steps p.tables e below (T5.setTop (mkF m 53 #[.val (.int i1), .val (.int i2), .val (.int i3), .val (.int i4), .val (.int i5), .val (.int s1), .val (.int s2), .val (.int r3), .val (.int r4), .val (.int r5), .unset, .unset, .unset, .unset, .unset, .unset, .unset, .unset, .unset, .unset, .unset] [(.int i4)])) _
    refine XS.iload P5.here hx rfl (hb hby at_53) rfl ?_
    show Steps p.tables e below (T5.setTop (mkF m 55 #[.val (.int i1), .val (.int i2), .val (.int i3), .val (.int i4), .val (.int i5), .val (.int s1), .val (.int s2), .val (.int r3), .val (.int r4), .val (.int r5), .unset, .unset, .unset, .unset, .unset, .unset, .unset, .unset, .unset, .unset, .unset] [(.int s2), (.int i4)])) _
    exact kQ
  show OwnDone p e below _ (T5.setTop (mkF m 55 #[.val (.int i1), .val (.int i2), .val (.int i3), .val (.int i4), .val (.int i5), .val (.int s1), .val (.int s2), .val (.int r3), .val (.int r4), .val (.int r5), .unset, .unset, .unset, .unset, .unset, .unset, .unset, .unset, .unset, .unset, .unset] [(.int s2), (.int i4)]))
  refine own_callS (y := (⟨"com/example/bounded_array/boundedarray/regex/BuilderAddPinLaw", "cp", "(IZ)I"⟩ : MethodName)) C P5 (hw _ (List.mem_of_getElem? (i := 0) rfl)) (hw _ (List.mem_of_getElem? (i := 1) rfl)) (hw _ (List.mem_of_getElem? (i := 2) rfl)) (hw _ (List.mem_of_getElem? (i := 3) rfl)) (by decide) (rmcp l Z a0 hw i4 s2 h0 P5.old) (as := [(.int i4), (.int s2)]) (rest := []) pd_17 rfl rfl (wd := 0) rfl rfl at_55 all0 (by decide) (by decide) (by decide) (by decide) (fun T6 h6 v6 P6 K6 hQ6 => ?_)
  obtain ⟨r6, rfl, cb6, rfl⟩ := hQ6
  show OwnDone p e below _ (T6.setTop (mkF m 58 #[.val (.int i1), .val (.int i2), .val (.int i3), .val (.int i4), .val (.int i5), .val (.int s1), .val (.int s2), .val (.int r3), .val (.int r4), .val (.int r5), .unset, .unset, .unset, .unset, .unset, .unset, .unset, .unset, .unset, .unset, .unset] [(.int r6)]))
  refine OwnDone.go (A := (T6.setTop (mkF m 64 #[.val (.int i1), .val (.int i2), .val (.int i3), .val (.int i4), .val (.int i5), .val (.int s1), .val (.int s2), .val (.int r3), .val (.int r4), .val (.int r5), .val (.int r6), .unset, .unset, .unset, .unset, .unset, .unset, .unset, .unset, .unset, .unset] [(.int r4), (.int r3)]))) (fun tQ kQ => ?_) ?_
  · refine XS.istore P6.here hx rfl (hb hby at_58) rfl (l' := #[.val (.int i1), .val (.int i2), .val (.int i3), .val (.int i4), .val (.int i5), .val (.int s1), .val (.int s2), .val (.int r3), .val (.int r4), .val (.int r5), .val (.int r6), .unset, .unset, .unset, .unset, .unset, .unset, .unset, .unset, .unset, .unset]) rfl ?_
    show Steps p.tables e below (T6.setTop (mkF m 60 #[.val (.int i1), .val (.int i2), .val (.int i3), .val (.int i4), .val (.int i5), .val (.int s1), .val (.int s2), .val (.int r3), .val (.int r4), .val (.int r5), .val (.int r6), .unset, .unset, .unset, .unset, .unset, .unset, .unset, .unset, .unset, .unset] [])) _
    refine XS.iload P6.here hx rfl (hb hby at_60) rfl ?_
    show Steps p.tables e below (T6.setTop (mkF m 62 #[.val (.int i1), .val (.int i2), .val (.int i3), .val (.int i4), .val (.int i5), .val (.int s1), .val (.int s2), .val (.int r3), .val (.int r4), .val (.int r5), .val (.int r6), .unset, .unset, .unset, .unset, .unset, .unset, .unset, .unset, .unset, .unset] [(.int r3)])) _
    refine XS.iload P6.here hx rfl (hb hby at_62) rfl ?_
    show Steps p.tables e below (T6.setTop (mkF m 64 #[.val (.int i1), .val (.int i2), .val (.int i3), .val (.int i4), .val (.int i5), .val (.int s1), .val (.int s2), .val (.int r3), .val (.int r4), .val (.int r5), .val (.int r6), .unset, .unset, .unset, .unset, .unset, .unset, .unset, .unset, .unset, .unset] [(.int r4), (.int r3)])) _
    exact kQ
  show OwnDone p e below _ (T6.setTop (mkF m 64 #[.val (.int i1), .val (.int i2), .val (.int i3), .val (.int i4), .val (.int i5), .val (.int s1), .val (.int s2), .val (.int r3), .val (.int r4), .val (.int r5), .val (.int r6), .unset, .unset, .unset, .unset, .unset, .unset, .unset, .unset, .unset, .unset] [(.int r4), (.int r3)]))
  refine own_callS (y := (⟨"java/lang/Math", "min", "(II)I"⟩ : MethodName)) C P6 (hw _ (List.mem_of_getElem? (i := 6) rfl)) (hw _ (List.mem_of_getElem? (i := 7) rfl)) (hw _ (List.mem_of_getElem? (i := 8) rfl)) (hw _ (List.mem_of_getElem? (i := 9) rfl)) (by decide) (rmmin l Z a0 hw r3 r4 h0 P6.old) (as := [(.int r3), (.int r4)]) (rest := []) pd_10 rfl rfl (wd := 0) rfl rfl at_64 all0 (by decide) (by decide) (by decide) (by decide) (fun T7 h7 v7 P7 K7 hQ7 => ?_)
  obtain ⟨r7, rfl, mn7, rfl⟩ := hQ7
  show OwnDone p e below _ (T7.setTop (mkF m 67 #[.val (.int i1), .val (.int i2), .val (.int i3), .val (.int i4), .val (.int i5), .val (.int s1), .val (.int s2), .val (.int r3), .val (.int r4), .val (.int r5), .val (.int r6), .unset, .unset, .unset, .unset, .unset, .unset, .unset, .unset, .unset, .unset] [(.int r7)]))
  refine OwnDone.go (A := (T7.setTop (mkF m 73 #[.val (.int i1), .val (.int i2), .val (.int i3), .val (.int i4), .val (.int i5), .val (.int s1), .val (.int s2), .val (.int r3), .val (.int r4), .val (.int r5), .val (.int r6), .val (.int r7), .unset, .unset, .unset, .unset, .unset, .unset, .unset, .unset, .unset] [(.int r4), (.int r3)]))) (fun tQ kQ => ?_) ?_
  · refine XS.istore P7.here hx rfl (hb hby at_67) rfl (l' := #[.val (.int i1), .val (.int i2), .val (.int i3), .val (.int i4), .val (.int i5), .val (.int s1), .val (.int s2), .val (.int r3), .val (.int r4), .val (.int r5), .val (.int r6), .val (.int r7), .unset, .unset, .unset, .unset, .unset, .unset, .unset, .unset, .unset]) rfl ?_
    show Steps p.tables e below (T7.setTop (mkF m 69 #[.val (.int i1), .val (.int i2), .val (.int i3), .val (.int i4), .val (.int i5), .val (.int s1), .val (.int s2), .val (.int r3), .val (.int r4), .val (.int r5), .val (.int r6), .val (.int r7), .unset, .unset, .unset, .unset, .unset, .unset, .unset, .unset, .unset] [])) _
    refine XS.iload P7.here hx rfl (hb hby at_69) rfl ?_
    show Steps p.tables e below (T7.setTop (mkF m 71 #[.val (.int i1), .val (.int i2), .val (.int i3), .val (.int i4), .val (.int i5), .val (.int s1), .val (.int s2), .val (.int r3), .val (.int r4), .val (.int r5), .val (.int r6), .val (.int r7), .unset, .unset, .unset, .unset, .unset, .unset, .unset, .unset, .unset] [(.int r3)])) _
    refine XS.iload P7.here hx rfl (hb hby at_71) rfl ?_
    show Steps p.tables e below (T7.setTop (mkF m 73 #[.val (.int i1), .val (.int i2), .val (.int i3), .val (.int i4), .val (.int i5), .val (.int s1), .val (.int s2), .val (.int r3), .val (.int r4), .val (.int r5), .val (.int r6), .val (.int r7), .unset, .unset, .unset, .unset, .unset, .unset, .unset, .unset, .unset] [(.int r4), (.int r3)])) _
    exact kQ
  show OwnDone p e below _ (T7.setTop (mkF m 73 #[.val (.int i1), .val (.int i2), .val (.int i3), .val (.int i4), .val (.int i5), .val (.int s1), .val (.int s2), .val (.int r3), .val (.int r4), .val (.int r5), .val (.int r6), .val (.int r7), .unset, .unset, .unset, .unset, .unset, .unset, .unset, .unset, .unset] [(.int r4), (.int r3)]))
  refine own_callS (y := (⟨"java/lang/Math", "max", "(II)I"⟩ : MethodName)) C P7 (hw _ (List.mem_of_getElem? (i := 10) rfl)) (hw _ (List.mem_of_getElem? (i := 11) rfl)) (hw _ (List.mem_of_getElem? (i := 8) rfl)) (hw _ (List.mem_of_getElem? (i := 12) rfl)) (by decide) (rmmax l Z a0 hw r3 r4 h0 P7.old) (as := [(.int r3), (.int r4)]) (rest := []) pd_10 rfl rfl (wd := 0) rfl rfl at_73 all0 (by decide) (by decide) (by decide) (by decide) (fun T8 h8 v8 P8 K8 hQ8 => ?_)
  obtain ⟨r8, rfl, mx8, rfl⟩ := hQ8
  show OwnDone p e below _ (T8.setTop (mkF m 76 #[.val (.int i1), .val (.int i2), .val (.int i3), .val (.int i4), .val (.int i5), .val (.int s1), .val (.int s2), .val (.int r3), .val (.int r4), .val (.int r5), .val (.int r6), .val (.int r7), .unset, .unset, .unset, .unset, .unset, .unset, .unset, .unset, .unset] [(.int r8)]))
  refine OwnDone.go (A := (T8.setTop (mkF m 82 #[.val (.int i1), .val (.int i2), .val (.int i3), .val (.int i4), .val (.int i5), .val (.int s1), .val (.int s2), .val (.int r3), .val (.int r4), .val (.int r5), .val (.int r6), .val (.int r7), .val (.int r8), .unset, .unset, .unset, .unset, .unset, .unset, .unset, .unset] [(.int r6), (.int r5)]))) (fun tQ kQ => ?_) ?_
  · refine XS.istore P8.here hx rfl (hb hby at_76) rfl (l' := #[.val (.int i1), .val (.int i2), .val (.int i3), .val (.int i4), .val (.int i5), .val (.int s1), .val (.int s2), .val (.int r3), .val (.int r4), .val (.int r5), .val (.int r6), .val (.int r7), .val (.int r8), .unset, .unset, .unset, .unset, .unset, .unset, .unset, .unset]) rfl ?_
    show Steps p.tables e below (T8.setTop (mkF m 78 #[.val (.int i1), .val (.int i2), .val (.int i3), .val (.int i4), .val (.int i5), .val (.int s1), .val (.int s2), .val (.int r3), .val (.int r4), .val (.int r5), .val (.int r6), .val (.int r7), .val (.int r8), .unset, .unset, .unset, .unset, .unset, .unset, .unset, .unset] [])) _
    refine XS.iload P8.here hx rfl (hb hby at_78) rfl ?_
    show Steps p.tables e below (T8.setTop (mkF m 80 #[.val (.int i1), .val (.int i2), .val (.int i3), .val (.int i4), .val (.int i5), .val (.int s1), .val (.int s2), .val (.int r3), .val (.int r4), .val (.int r5), .val (.int r6), .val (.int r7), .val (.int r8), .unset, .unset, .unset, .unset, .unset, .unset, .unset, .unset] [(.int r5)])) _
    refine XS.iload P8.here hx rfl (hb hby at_80) rfl ?_
    show Steps p.tables e below (T8.setTop (mkF m 82 #[.val (.int i1), .val (.int i2), .val (.int i3), .val (.int i4), .val (.int i5), .val (.int s1), .val (.int s2), .val (.int r3), .val (.int r4), .val (.int r5), .val (.int r6), .val (.int r7), .val (.int r8), .unset, .unset, .unset, .unset, .unset, .unset, .unset, .unset] [(.int r6), (.int r5)])) _
    exact kQ
  show OwnDone p e below _ (T8.setTop (mkF m 82 #[.val (.int i1), .val (.int i2), .val (.int i3), .val (.int i4), .val (.int i5), .val (.int s1), .val (.int s2), .val (.int r3), .val (.int r4), .val (.int r5), .val (.int r6), .val (.int r7), .val (.int r8), .unset, .unset, .unset, .unset, .unset, .unset, .unset, .unset] [(.int r6), (.int r5)]))
  refine own_callS (y := (⟨"java/lang/Math", "min", "(II)I"⟩ : MethodName)) C P8 (hw _ (List.mem_of_getElem? (i := 6) rfl)) (hw _ (List.mem_of_getElem? (i := 7) rfl)) (hw _ (List.mem_of_getElem? (i := 8) rfl)) (hw _ (List.mem_of_getElem? (i := 9) rfl)) (by decide) (rmmin l Z a0 hw r5 r6 h0 P8.old) (as := [(.int r5), (.int r6)]) (rest := []) pd_10 rfl rfl (wd := 0) rfl rfl at_82 all0 (by decide) (by decide) (by decide) (by decide) (fun T9 h9 v9 P9 K9 hQ9 => ?_)
  obtain ⟨r9, rfl, mn9, rfl⟩ := hQ9
  show OwnDone p e below _ (T9.setTop (mkF m 85 #[.val (.int i1), .val (.int i2), .val (.int i3), .val (.int i4), .val (.int i5), .val (.int s1), .val (.int s2), .val (.int r3), .val (.int r4), .val (.int r5), .val (.int r6), .val (.int r7), .val (.int r8), .unset, .unset, .unset, .unset, .unset, .unset, .unset, .unset] [(.int r9)]))
  refine OwnDone.go (A := (T9.setTop (mkF m 91 #[.val (.int i1), .val (.int i2), .val (.int i3), .val (.int i4), .val (.int i5), .val (.int s1), .val (.int s2), .val (.int r3), .val (.int r4), .val (.int r5), .val (.int r6), .val (.int r7), .val (.int r8), .val (.int r9), .unset, .unset, .unset, .unset, .unset, .unset, .unset] [(.int r6), (.int r5)]))) (fun tQ kQ => ?_) ?_
  · refine XS.istore P9.here hx rfl (hb hby at_85) rfl (l' := #[.val (.int i1), .val (.int i2), .val (.int i3), .val (.int i4), .val (.int i5), .val (.int s1), .val (.int s2), .val (.int r3), .val (.int r4), .val (.int r5), .val (.int r6), .val (.int r7), .val (.int r8), .val (.int r9), .unset, .unset, .unset, .unset, .unset, .unset, .unset]) rfl ?_
    show Steps p.tables e below (T9.setTop (mkF m 87 #[.val (.int i1), .val (.int i2), .val (.int i3), .val (.int i4), .val (.int i5), .val (.int s1), .val (.int s2), .val (.int r3), .val (.int r4), .val (.int r5), .val (.int r6), .val (.int r7), .val (.int r8), .val (.int r9), .unset, .unset, .unset, .unset, .unset, .unset, .unset] [])) _
    refine XS.iload P9.here hx rfl (hb hby at_87) rfl ?_
    show Steps p.tables e below (T9.setTop (mkF m 89 #[.val (.int i1), .val (.int i2), .val (.int i3), .val (.int i4), .val (.int i5), .val (.int s1), .val (.int s2), .val (.int r3), .val (.int r4), .val (.int r5), .val (.int r6), .val (.int r7), .val (.int r8), .val (.int r9), .unset, .unset, .unset, .unset, .unset, .unset, .unset] [(.int r5)])) _
    refine XS.iload P9.here hx rfl (hb hby at_89) rfl ?_
    show Steps p.tables e below (T9.setTop (mkF m 91 #[.val (.int i1), .val (.int i2), .val (.int i3), .val (.int i4), .val (.int i5), .val (.int s1), .val (.int s2), .val (.int r3), .val (.int r4), .val (.int r5), .val (.int r6), .val (.int r7), .val (.int r8), .val (.int r9), .unset, .unset, .unset, .unset, .unset, .unset, .unset] [(.int r6), (.int r5)])) _
    exact kQ
  show OwnDone p e below _ (T9.setTop (mkF m 91 #[.val (.int i1), .val (.int i2), .val (.int i3), .val (.int i4), .val (.int i5), .val (.int s1), .val (.int s2), .val (.int r3), .val (.int r4), .val (.int r5), .val (.int r6), .val (.int r7), .val (.int r8), .val (.int r9), .unset, .unset, .unset, .unset, .unset, .unset, .unset] [(.int r6), (.int r5)]))
  refine own_callS (y := (⟨"java/lang/Math", "max", "(II)I"⟩ : MethodName)) C P9 (hw _ (List.mem_of_getElem? (i := 10) rfl)) (hw _ (List.mem_of_getElem? (i := 11) rfl)) (hw _ (List.mem_of_getElem? (i := 8) rfl)) (hw _ (List.mem_of_getElem? (i := 12) rfl)) (by decide) (rmmax l Z a0 hw r5 r6 h0 P9.old) (as := [(.int r5), (.int r6)]) (rest := []) pd_10 rfl rfl (wd := 0) rfl rfl at_91 all0 (by decide) (by decide) (by decide) (by decide) (fun T10 h10 v10 P10 K10 hQ10 => ?_)
  obtain ⟨r10, rfl, mx10, rfl⟩ := hQ10
  show OwnDone p e below _ (T10.setTop (mkF m 94 #[.val (.int i1), .val (.int i2), .val (.int i3), .val (.int i4), .val (.int i5), .val (.int s1), .val (.int s2), .val (.int r3), .val (.int r4), .val (.int r5), .val (.int r6), .val (.int r7), .val (.int r8), .val (.int r9), .unset, .unset, .unset, .unset, .unset, .unset, .unset] [(.int r10)]))
  refine OwnDone.go (A := (T10.setTop (mkF m 96 #[.val (.int i1), .val (.int i2), .val (.int i3), .val (.int i4), .val (.int i5), .val (.int s1), .val (.int s2), .val (.int r3), .val (.int r4), .val (.int r5), .val (.int r6), .val (.int r7), .val (.int r8), .val (.int r9), .val (.int r10), .unset, .unset, .unset, .unset, .unset, .unset] []))) (fun tQ kQ => ?_) ?_
  · refine XS.istore P10.here hx rfl (hb hby at_94) rfl (l' := #[.val (.int i1), .val (.int i2), .val (.int i3), .val (.int i4), .val (.int i5), .val (.int s1), .val (.int s2), .val (.int r3), .val (.int r4), .val (.int r5), .val (.int r6), .val (.int r7), .val (.int r8), .val (.int r9), .val (.int r10), .unset, .unset, .unset, .unset, .unset, .unset]) rfl ?_
    show Steps p.tables e below (T10.setTop (mkF m 96 #[.val (.int i1), .val (.int i2), .val (.int i3), .val (.int i4), .val (.int i5), .val (.int s1), .val (.int s2), .val (.int r3), .val (.int r4), .val (.int r5), .val (.int r6), .val (.int r7), .val (.int r8), .val (.int r9), .val (.int r10), .unset, .unset, .unset, .unset, .unset, .unset] [])) _
    exact kQ
  show OwnDone p e below _ (T10.setTop (mkF m 96 #[.val (.int i1), .val (.int i2), .val (.int i3), .val (.int i4), .val (.int i5), .val (.int s1), .val (.int s2), .val (.int r3), .val (.int r4), .val (.int r5), .val (.int r6), .val (.int r7), .val (.int r8), .val (.int r9), .val (.int r10), .unset, .unset, .unset, .unset, .unset, .unset] []))
  have F1 := own_fl cb3 cb4 mn7 mx8
  have F2 := own_fl cb5 cb6 mn9 mx10
  have hp : own_Nn r7 r8 r9 r10 := ⟨F1.1, Int.le_trans F1.1 F1.2.1, F2.1, Int.le_trans F2.1 F2.2.1⟩
  refine own_new (vs := [.null, .null, (.int (0 : Int32))]) C P10 (hw _ (List.mem_of_getElem? (i := 13) rfl)) (hw _ (List.mem_of_getElem? (i := 14) rfl)) (hw _ (List.mem_of_getElem? (i := 15) rfl)) (own_laid3 hw) (by decide +kernel) at_96 (by decide) (by decide) (fun T11 h11 a11 ga11 la11 P11 K11 O11 => ?_)
  have ge_a11 : h0.size ≤ a11 := by rw [ga11]; exact P10.keep.1
  show OwnDone p e below _ (T11.setTop (mkF m 99 #[.val (.int i1), .val (.int i2), .val (.int i3), .val (.int i4), .val (.int i5), .val (.int s1), .val (.int s2), .val (.int r3), .val (.int r4), .val (.int r5), .val (.int r6), .val (.int r7), .val (.int r8), .val (.int r9), .val (.int r10), .unset, .unset, .unset, .unset, .unset, .unset] [(.ref a11)]))
  refine OwnDone.go (A := (T11.setTop (mkF m 100 #[.val (.int i1), .val (.int i2), .val (.int i3), .val (.int i4), .val (.int i5), .val (.int s1), .val (.int s2), .val (.int r3), .val (.int r4), .val (.int r5), .val (.int r6), .val (.int r7), .val (.int r8), .val (.int r9), .val (.int r10), .unset, .unset, .unset, .unset, .unset, .unset] [(.ref a11), (.ref a11)]))) (fun tQ kQ => ?_) ?_
  · refine XS.dup P11.here hx rfl (hb hby at_99) rfl rfl ?_
    show Steps p.tables e below (T11.setTop (mkF m 100 #[.val (.int i1), .val (.int i2), .val (.int i3), .val (.int i4), .val (.int i5), .val (.int s1), .val (.int s2), .val (.int r3), .val (.int r4), .val (.int r5), .val (.int r6), .val (.int r7), .val (.int r8), .val (.int r9), .val (.int r10), .unset, .unset, .unset, .unset, .unset, .unset] [(.ref a11), (.ref a11)])) _
    exact kQ
  show OwnDone p e below _ (T11.setTop (mkF m 100 #[.val (.int i1), .val (.int i2), .val (.int i3), .val (.int i4), .val (.int i5), .val (.int s1), .val (.int s2), .val (.int r3), .val (.int r4), .val (.int r5), .val (.int r6), .val (.int r7), .val (.int r8), .val (.int r9), .val (.int r10), .unset, .unset, .unset, .unset, .unset, .unset] [(.ref a11), (.ref a11)]))
  refine own_callI (y := (⟨"com/example/bounded_array/boundedarray/regex/CodePointSet$Builder", "<init>", "()V"⟩ : MethodName)) C P11 rfl (hw _ (List.mem_of_getElem? (i := 16) rfl)) (hw _ (List.mem_of_getElem? (i := 17) rfl)) (hw _ (List.mem_of_getElem? (i := 15) rfl)) (hw _ (List.mem_of_getElem? (i := 18) rfl)) (by decide) (rmbi l Z a0 hw a11 h11 P11.old (Nat.le_trans hE.1 ge_a11) O11) (as := []) (rest := [(.ref a11)]) pd_0 rfl rfl (wd := 1) rfl rfl at_100 (allS (Or.inr ge_a11) all0) (by decide) (by decide) (by decide) (by decide) (fun T12 h12 v12 P12 K12 hQ12 => ?_)
  obtain ⟨rfl, b12, k12, s12, O12, Y12, gb12, nb12⟩ := hQ12
  have ge_b12 : h0.size ≤ b12 := Nat.le_trans P11.keep.1 gb12
  show OwnDone p e below _ (T12.setTop (mkF m 103 #[.val (.int i1), .val (.int i2), .val (.int i3), .val (.int i4), .val (.int i5), .val (.int s1), .val (.int s2), .val (.int r3), .val (.int r4), .val (.int r5), .val (.int r6), .val (.int r7), .val (.int r8), .val (.int r9), .val (.int r10), .unset, .unset, .unset, .unset, .unset, .unset] [(.ref a11)]))
  refine OwnDone.go (A := (T12.setTop (mkF m 111 #[.val (.int i1), .val (.int i2), .val (.int i3), .val (.int i4), .val (.int i5), .val (.int s1), .val (.int s2), .val (.int r3), .val (.int r4), .val (.int r5), .val (.int r6), .val (.int r7), .val (.int r8), .val (.int r9), .val (.int r10), .val (.ref a11), .unset, .unset, .unset, .unset, .unset] [(.int r8), (.int r7), (.ref a11)]))) (fun tQ kQ => ?_) ?_
  · refine XS.astore P12.here hx rfl (hb hby at_103) rfl rfl (l' := #[.val (.int i1), .val (.int i2), .val (.int i3), .val (.int i4), .val (.int i5), .val (.int s1), .val (.int s2), .val (.int r3), .val (.int r4), .val (.int r5), .val (.int r6), .val (.int r7), .val (.int r8), .val (.int r9), .val (.int r10), .val (.ref a11), .unset, .unset, .unset, .unset, .unset]) rfl ?_
    show Steps p.tables e below (T12.setTop (mkF m 105 #[.val (.int i1), .val (.int i2), .val (.int i3), .val (.int i4), .val (.int i5), .val (.int s1), .val (.int s2), .val (.int r3), .val (.int r4), .val (.int r5), .val (.int r6), .val (.int r7), .val (.int r8), .val (.int r9), .val (.int r10), .val (.ref a11), .unset, .unset, .unset, .unset, .unset] [])) _
    refine XS.aload P12.here hx rfl (hb hby at_105) rfl rfl ?_
    show Steps p.tables e below (T12.setTop (mkF m 107 #[.val (.int i1), .val (.int i2), .val (.int i3), .val (.int i4), .val (.int i5), .val (.int s1), .val (.int s2), .val (.int r3), .val (.int r4), .val (.int r5), .val (.int r6), .val (.int r7), .val (.int r8), .val (.int r9), .val (.int r10), .val (.ref a11), .unset, .unset, .unset, .unset, .unset] [(.ref a11)])) _
    refine XS.iload P12.here hx rfl (hb hby at_107) rfl ?_
    show Steps p.tables e below (T12.setTop (mkF m 109 #[.val (.int i1), .val (.int i2), .val (.int i3), .val (.int i4), .val (.int i5), .val (.int s1), .val (.int s2), .val (.int r3), .val (.int r4), .val (.int r5), .val (.int r6), .val (.int r7), .val (.int r8), .val (.int r9), .val (.int r10), .val (.ref a11), .unset, .unset, .unset, .unset, .unset] [(.int r7), (.ref a11)])) _
    refine XS.iload P12.here hx rfl (hb hby at_109) rfl ?_
    show Steps p.tables e below (T12.setTop (mkF m 111 #[.val (.int i1), .val (.int i2), .val (.int i3), .val (.int i4), .val (.int i5), .val (.int s1), .val (.int s2), .val (.int r3), .val (.int r4), .val (.int r5), .val (.int r6), .val (.int r7), .val (.int r8), .val (.int r9), .val (.int r10), .val (.ref a11), .unset, .unset, .unset, .unset, .unset] [(.int r8), (.int r7), (.ref a11)])) _
    exact kQ
  show OwnDone p e below _ (T12.setTop (mkF m 111 #[.val (.int i1), .val (.int i2), .val (.int i3), .val (.int i4), .val (.int i5), .val (.int s1), .val (.int s2), .val (.int r3), .val (.int r4), .val (.int r5), .val (.int r6), .val (.int r7), .val (.int r8), .val (.int r9), .val (.int r10), .val (.ref a11), .unset, .unset, .unset, .unset, .unset] [(.int r8), (.int r7), (.ref a11)]))
  refine own_callV (y := (⟨"com/example/bounded_array/boundedarray/regex/CodePointSet$Builder", "add", "(II)V"⟩ : MethodName)) (z := (⟨"com/example/bounded_array/boundedarray/regex/CodePointSet$Builder", "add", "(II)V"⟩ : MethodName)) (CC := "com/example/bounded_array/boundedarray/regex/CodePointSet$Builder") C P12 O12.1 (hw _ (List.mem_of_getElem? (i := 111) rfl)) (hw _ (List.mem_of_getElem? (i := 112) rfl)) (hw _ (List.mem_of_getElem? (i := 114) rfl)) (hw _ (List.mem_of_getElem? (i := 114) rfl)) (hw _ (List.mem_of_getElem? (i := 113) rfl)) (hw _ (List.mem_of_getElem? (i := 15) rfl)) (hw _ (List.mem_of_getElem? (i := 115) rfl)) (by decide) (rmad0 l Z a0 hw a11 r7 r8 b12 s12 k12  h12 P12.old (Nat.le_trans hE.1 ge_a11) (Nat.le_trans hE.1 ge_b12) O12 Y12 nb12) (as := [(.int r7), (.int r8)]) (rest := []) pd_18 rfl rfl (wd := 0) rfl rfl at_111 (allS (Or.inr ge_a11) (allS (Or.inr ge_b12) all0)) (by decide) (by decide) (by decide) (by decide) (fun T13 h13 v13 P13 K13 hQ13 => ?_)
  obtain ⟨rfl, O13, Y13⟩ := hQ13
  show OwnDone p e below _ (T13.setTop (mkF m 114 #[.val (.int i1), .val (.int i2), .val (.int i3), .val (.int i4), .val (.int i5), .val (.int s1), .val (.int s2), .val (.int r3), .val (.int r4), .val (.int r5), .val (.int r6), .val (.int r7), .val (.int r8), .val (.int r9), .val (.int r10), .val (.ref a11), .unset, .unset, .unset, .unset, .unset] []))
  refine OwnDone.go (A := (T13.setTop (mkF m 120 #[.val (.int i1), .val (.int i2), .val (.int i3), .val (.int i4), .val (.int i5), .val (.int s1), .val (.int s2), .val (.int r3), .val (.int r4), .val (.int r5), .val (.int r6), .val (.int r7), .val (.int r8), .val (.int r9), .val (.int r10), .val (.ref a11), .unset, .unset, .unset, .unset, .unset] [(.int r10), (.int r9), (.ref a11)]))) (fun tQ kQ => ?_) ?_
  · refine XS.aload P13.here hx rfl (hb hby at_114) rfl rfl ?_
    show Steps p.tables e below (T13.setTop (mkF m 116 #[.val (.int i1), .val (.int i2), .val (.int i3), .val (.int i4), .val (.int i5), .val (.int s1), .val (.int s2), .val (.int r3), .val (.int r4), .val (.int r5), .val (.int r6), .val (.int r7), .val (.int r8), .val (.int r9), .val (.int r10), .val (.ref a11), .unset, .unset, .unset, .unset, .unset] [(.ref a11)])) _
    refine XS.iload P13.here hx rfl (hb hby at_116) rfl ?_
    show Steps p.tables e below (T13.setTop (mkF m 118 #[.val (.int i1), .val (.int i2), .val (.int i3), .val (.int i4), .val (.int i5), .val (.int s1), .val (.int s2), .val (.int r3), .val (.int r4), .val (.int r5), .val (.int r6), .val (.int r7), .val (.int r8), .val (.int r9), .val (.int r10), .val (.ref a11), .unset, .unset, .unset, .unset, .unset] [(.int r9), (.ref a11)])) _
    refine XS.iload P13.here hx rfl (hb hby at_118) rfl ?_
    show Steps p.tables e below (T13.setTop (mkF m 120 #[.val (.int i1), .val (.int i2), .val (.int i3), .val (.int i4), .val (.int i5), .val (.int s1), .val (.int s2), .val (.int r3), .val (.int r4), .val (.int r5), .val (.int r6), .val (.int r7), .val (.int r8), .val (.int r9), .val (.int r10), .val (.ref a11), .unset, .unset, .unset, .unset, .unset] [(.int r10), (.int r9), (.ref a11)])) _
    exact kQ
  show OwnDone p e below _ (T13.setTop (mkF m 120 #[.val (.int i1), .val (.int i2), .val (.int i3), .val (.int i4), .val (.int i5), .val (.int s1), .val (.int s2), .val (.int r3), .val (.int r4), .val (.int r5), .val (.int r6), .val (.int r7), .val (.int r8), .val (.int r9), .val (.int r10), .val (.ref a11), .unset, .unset, .unset, .unset, .unset] [(.int r10), (.int r9), (.ref a11)]))
  refine own_callV (y := (⟨"com/example/bounded_array/boundedarray/regex/CodePointSet$Builder", "add", "(II)V"⟩ : MethodName)) (z := (⟨"com/example/bounded_array/boundedarray/regex/CodePointSet$Builder", "add", "(II)V"⟩ : MethodName)) (CC := "com/example/bounded_array/boundedarray/regex/CodePointSet$Builder") C P13 O13.1 (hw _ (List.mem_of_getElem? (i := 111) rfl)) (hw _ (List.mem_of_getElem? (i := 112) rfl)) (hw _ (List.mem_of_getElem? (i := 114) rfl)) (hw _ (List.mem_of_getElem? (i := 114) rfl)) (hw _ (List.mem_of_getElem? (i := 113) rfl)) (hw _ (List.mem_of_getElem? (i := 15) rfl)) (hw _ (List.mem_of_getElem? (i := 115) rfl)) (by decide) (rmad2 l Z a0 hw a11 r9 r10 b12 s12 k12 r7 r8 h13 P13.old (Nat.le_trans hE.1 ge_a11) (Nat.le_trans hE.1 ge_b12) O13 Y13 nb12) (as := [(.int r9), (.int r10)]) (rest := []) pd_18 rfl rfl (wd := 0) rfl rfl at_120 (allS (Or.inr ge_a11) (allS (Or.inr ge_b12) all0)) (by decide) (by decide) (by decide) (by decide) (fun T14 h14 v14 P14 K14 hQ14 => ?_)
  obtain ⟨rfl, O14, Y14⟩ := hQ14
  show OwnDone p e below _ (T14.setTop (mkF m 123 #[.val (.int i1), .val (.int i2), .val (.int i3), .val (.int i4), .val (.int i5), .val (.int s1), .val (.int s2), .val (.int r3), .val (.int r4), .val (.int r5), .val (.int r6), .val (.int r7), .val (.int r8), .val (.int r9), .val (.int r10), .val (.ref a11), .unset, .unset, .unset, .unset, .unset] []))
  refine OwnDone.go (A := (T14.setTop (mkF m 125 #[.val (.int i1), .val (.int i2), .val (.int i3), .val (.int i4), .val (.int i5), .val (.int s1), .val (.int s2), .val (.int r3), .val (.int r4), .val (.int r5), .val (.int r6), .val (.int r7), .val (.int r8), .val (.int r9), .val (.int r10), .val (.ref a11), .unset, .unset, .unset, .unset, .unset] [(.ref a11)]))) (fun tQ kQ => ?_) ?_
  · refine XS.aload P14.here hx rfl (hb hby at_123) rfl rfl ?_
    show Steps p.tables e below (T14.setTop (mkF m 125 #[.val (.int i1), .val (.int i2), .val (.int i3), .val (.int i4), .val (.int i5), .val (.int s1), .val (.int s2), .val (.int r3), .val (.int r4), .val (.int r5), .val (.int r6), .val (.int r7), .val (.int r8), .val (.int r9), .val (.int r10), .val (.ref a11), .unset, .unset, .unset, .unset, .unset] [(.ref a11)])) _
    exact kQ
  show OwnDone p e below _ (T14.setTop (mkF m 125 #[.val (.int i1), .val (.int i2), .val (.int i3), .val (.int i4), .val (.int i5), .val (.int s1), .val (.int s2), .val (.int r3), .val (.int r4), .val (.int r5), .val (.int r6), .val (.int r7), .val (.int r8), .val (.int r9), .val (.int r10), .val (.ref a11), .unset, .unset, .unset, .unset, .unset] [(.ref a11)]))
  rcases own_cases F1 F2 with ⟨hs, hA, hm⟩ | ⟨hs, hA, hm⟩ | ⟨hs, hA, hm⟩ | ⟨hs, hA, hm⟩ | ⟨hs, hA, hm, hm2, eqC⟩
  · show OwnDone p e below _ (T14.setTop (mkF m 125 #[.val (.int i1), .val (.int i2), .val (.int i3), .val (.int i4), .val (.int i5), .val (.int s1), .val (.int s2), .val (.int r3), .val (.int r4), .val (.int r5), .val (.int r6), .val (.int r7), .val (.int r8), .val (.int r9), .val (.int r10), .val (.ref a11), .unset, .unset, .unset, .unset, .unset] [(.ref a11)]))
    refine own_callV (y := (⟨"com/example/bounded_array/boundedarray/regex/CodePointSet$Builder", "build", "()Lcom/example/bounded_array/boundedarray/regex/CodePointSet;"⟩ : MethodName)) (z := (⟨"com/example/bounded_array/boundedarray/regex/CodePointSet$Builder", "build", "()Lcom/example/bounded_array/boundedarray/regex/CodePointSet;"⟩ : MethodName)) (CC := "com/example/bounded_array/boundedarray/regex/CodePointSet$Builder") C P14 O14.1 (hw _ (List.mem_of_getElem? (i := 122) rfl)) (hw _ (List.mem_of_getElem? (i := 123) rfl)) (hw _ (List.mem_of_getElem? (i := 125) rfl)) (hw _ (List.mem_of_getElem? (i := 125) rfl)) (hw _ (List.mem_of_getElem? (i := 124) rfl)) (hw _ (List.mem_of_getElem? (i := 15) rfl)) (hw _ (List.mem_of_getElem? (i := 126) rfl)) (by decide) (rmbm l Z a0 hw a11 b12 s12 k12 r7 r8 r9 r10 r7 r8 r9 r10 h14 P14.old O14 Y14 nb12 hp hs hm) (as := []) (rest := []) pd_19 rfl rfl (wd := 0) rfl rfl at_125 all0 (by decide) (by decide) (by decide) (by decide) (fun T15 h15 v15 P15 K15 hQ15 => ?_)
    obtain ⟨c15, ra15, k15, hs15, lo15, hi15, r15, rfl, O15, Y15, mx15⟩ := hQ15
    have O16_a11 := O14.keep K15 nin0
    have Y17_b12 := Y14.keep K15 nin0
    show OwnDone p e below _ (T15.setTop (mkF m 128 #[.val (.int i1), .val (.int i2), .val (.int i3), .val (.int i4), .val (.int i5), .val (.int s1), .val (.int s2), .val (.int r3), .val (.int r4), .val (.int r5), .val (.int r6), .val (.int r7), .val (.int r8), .val (.int r9), .val (.int r10), .val (.ref a11), .unset, .unset, .unset, .unset, .unset] [(.ref c15)]))
    refine OwnDone.go (A := (T15.setTop (mkF m 134 #[.val (.int i1), .val (.int i2), .val (.int i3), .val (.int i4), .val (.int i5), .val (.int s1), .val (.int s2), .val (.int r3), .val (.int r4), .val (.int r5), .val (.int r6), .val (.int r7), .val (.int r8), .val (.int r9), .val (.int r10), .val (.ref a11), .val (.ref c15), .unset, .unset, .unset, .unset] [(.int r9), (.int r7)]))) (fun tQ kQ => ?_) ?_
    · refine XS.astore P15.here hx rfl (hb hby at_128) rfl rfl (l' := #[.val (.int i1), .val (.int i2), .val (.int i3), .val (.int i4), .val (.int i5), .val (.int s1), .val (.int s2), .val (.int r3), .val (.int r4), .val (.int r5), .val (.int r6), .val (.int r7), .val (.int r8), .val (.int r9), .val (.int r10), .val (.ref a11), .val (.ref c15), .unset, .unset, .unset, .unset]) rfl ?_
      show Steps p.tables e below (T15.setTop (mkF m 130 #[.val (.int i1), .val (.int i2), .val (.int i3), .val (.int i4), .val (.int i5), .val (.int s1), .val (.int s2), .val (.int r3), .val (.int r4), .val (.int r5), .val (.int r6), .val (.int r7), .val (.int r8), .val (.int r9), .val (.int r10), .val (.ref a11), .val (.ref c15), .unset, .unset, .unset, .unset] [])) _
      refine XS.iload P15.here hx rfl (hb hby at_130) rfl ?_
      show Steps p.tables e below (T15.setTop (mkF m 132 #[.val (.int i1), .val (.int i2), .val (.int i3), .val (.int i4), .val (.int i5), .val (.int s1), .val (.int s2), .val (.int r3), .val (.int r4), .val (.int r5), .val (.int r6), .val (.int r7), .val (.int r8), .val (.int r9), .val (.int r10), .val (.ref a11), .val (.ref c15), .unset, .unset, .unset, .unset] [(.int r7)])) _
      refine XS.iload P15.here hx rfl (hb hby at_132) rfl ?_
      show Steps p.tables e below (T15.setTop (mkF m 134 #[.val (.int i1), .val (.int i2), .val (.int i3), .val (.int i4), .val (.int i5), .val (.int s1), .val (.int s2), .val (.int r3), .val (.int r4), .val (.int r5), .val (.int r6), .val (.int r7), .val (.int r8), .val (.int r9), .val (.int r10), .val (.ref a11), .val (.ref c15), .unset, .unset, .unset, .unset] [(.int r9), (.int r7)])) _
      exact kQ
    show OwnDone p e below _ (T15.setTop (mkF m 134 #[.val (.int i1), .val (.int i2), .val (.int i3), .val (.int i4), .val (.int i5), .val (.int s1), .val (.int s2), .val (.int r3), .val (.int r4), .val (.int r5), .val (.int r6), .val (.int r7), .val (.int r8), .val (.int r9), .val (.int r10), .val (.ref a11), .val (.ref c15), .unset, .unset, .unset, .unset] [(.int r9), (.int r7)]))
    refine OwnDone.go (A := (T15.setTop (mkF m 137 #[.val (.int i1), .val (.int i2), .val (.int i3), .val (.int i4), .val (.int i5), .val (.int s1), .val (.int s2), .val (.int r3), .val (.int r4), .val (.int r5), .val (.int r6), .val (.int r7), .val (.int r8), .val (.int r9), .val (.int r10), .val (.ref a11), .val (.ref c15), .unset, .unset, .unset, .unset] []))) (fun tQ kQ => XS.icmpNo P15.here hx rfl (hb hby at_134) rfl (XT.ii_gt_f hA) kQ) ?_
    show OwnDone p e below _ (T15.setTop (mkF m 137 #[.val (.int i1), .val (.int i2), .val (.int i3), .val (.int i4), .val (.int i5), .val (.int s1), .val (.int s2), .val (.int r3), .val (.int r4), .val (.int r5), .val (.int r6), .val (.int r7), .val (.int r8), .val (.int r9), .val (.int r10), .val (.ref a11), .val (.ref c15), .unset, .unset, .unset, .unset] []))
    refine OwnDone.go (A := (T15.setTop (mkF m 178 #[.val (.int i1), .val (.int i2), .val (.int i3), .val (.int i4), .val (.int i5), .val (.int s1), .val (.int s2), .val (.int r3), .val (.int r4), .val (.int r5), .val (.int r6), .val (.int r7), .val (.int r8), .val (.int r9), .val (.int r10), .val (.ref a11), .val (.ref c15), .val (.int r7), .val (.int r8), .val (.int r9), .val (.int r10)] [(.int (r8 + (1 : Int32))), (.int r9)]))) (fun tQ kQ => ?_) ?_
    · refine XS.iload P15.here hx rfl (hb hby at_137) rfl ?_
      show Steps p.tables e below (T15.setTop (mkF m 139 #[.val (.int i1), .val (.int i2), .val (.int i3), .val (.int i4), .val (.int i5), .val (.int s1), .val (.int s2), .val (.int r3), .val (.int r4), .val (.int r5), .val (.int r6), .val (.int r7), .val (.int r8), .val (.int r9), .val (.int r10), .val (.ref a11), .val (.ref c15), .unset, .unset, .unset, .unset] [(.int r7)])) _
      refine XS.istore P15.here hx rfl (hb hby at_139) rfl (l' := #[.val (.int i1), .val (.int i2), .val (.int i3), .val (.int i4), .val (.int i5), .val (.int s1), .val (.int s2), .val (.int r3), .val (.int r4), .val (.int r5), .val (.int r6), .val (.int r7), .val (.int r8), .val (.int r9), .val (.int r10), .val (.ref a11), .val (.ref c15), .val (.int r7), .unset, .unset, .unset]) rfl ?_
      show Steps p.tables e below (T15.setTop (mkF m 141 #[.val (.int i1), .val (.int i2), .val (.int i3), .val (.int i4), .val (.int i5), .val (.int s1), .val (.int s2), .val (.int r3), .val (.int r4), .val (.int r5), .val (.int r6), .val (.int r7), .val (.int r8), .val (.int r9), .val (.int r10), .val (.ref a11), .val (.ref c15), .val (.int r7), .unset, .unset, .unset] [])) _
      refine XS.iload P15.here hx rfl (hb hby at_141) rfl ?_
      show Steps p.tables e below (T15.setTop (mkF m 143 #[.val (.int i1), .val (.int i2), .val (.int i3), .val (.int i4), .val (.int i5), .val (.int s1), .val (.int s2), .val (.int r3), .val (.int r4), .val (.int r5), .val (.int r6), .val (.int r7), .val (.int r8), .val (.int r9), .val (.int r10), .val (.ref a11), .val (.ref c15), .val (.int r7), .unset, .unset, .unset] [(.int r8)])) _
      refine XS.istore P15.here hx rfl (hb hby at_143) rfl (l' := #[.val (.int i1), .val (.int i2), .val (.int i3), .val (.int i4), .val (.int i5), .val (.int s1), .val (.int s2), .val (.int r3), .val (.int r4), .val (.int r5), .val (.int r6), .val (.int r7), .val (.int r8), .val (.int r9), .val (.int r10), .val (.ref a11), .val (.ref c15), .val (.int r7), .val (.int r8), .unset, .unset]) rfl ?_
      show Steps p.tables e below (T15.setTop (mkF m 145 #[.val (.int i1), .val (.int i2), .val (.int i3), .val (.int i4), .val (.int i5), .val (.int s1), .val (.int s2), .val (.int r3), .val (.int r4), .val (.int r5), .val (.int r6), .val (.int r7), .val (.int r8), .val (.int r9), .val (.int r10), .val (.ref a11), .val (.ref c15), .val (.int r7), .val (.int r8), .unset, .unset] [])) _
      refine XS.iload P15.here hx rfl (hb hby at_145) rfl ?_
      show Steps p.tables e below (T15.setTop (mkF m 147 #[.val (.int i1), .val (.int i2), .val (.int i3), .val (.int i4), .val (.int i5), .val (.int s1), .val (.int s2), .val (.int r3), .val (.int r4), .val (.int r5), .val (.int r6), .val (.int r7), .val (.int r8), .val (.int r9), .val (.int r10), .val (.ref a11), .val (.ref c15), .val (.int r7), .val (.int r8), .unset, .unset] [(.int r9)])) _
      refine XS.istore P15.here hx rfl (hb hby at_147) rfl (l' := #[.val (.int i1), .val (.int i2), .val (.int i3), .val (.int i4), .val (.int i5), .val (.int s1), .val (.int s2), .val (.int r3), .val (.int r4), .val (.int r5), .val (.int r6), .val (.int r7), .val (.int r8), .val (.int r9), .val (.int r10), .val (.ref a11), .val (.ref c15), .val (.int r7), .val (.int r8), .val (.int r9), .unset]) rfl ?_
      show Steps p.tables e below (T15.setTop (mkF m 149 #[.val (.int i1), .val (.int i2), .val (.int i3), .val (.int i4), .val (.int i5), .val (.int s1), .val (.int s2), .val (.int r3), .val (.int r4), .val (.int r5), .val (.int r6), .val (.int r7), .val (.int r8), .val (.int r9), .val (.int r10), .val (.ref a11), .val (.ref c15), .val (.int r7), .val (.int r8), .val (.int r9), .unset] [])) _
      refine XS.iload P15.here hx rfl (hb hby at_149) rfl ?_
      show Steps p.tables e below (T15.setTop (mkF m 151 #[.val (.int i1), .val (.int i2), .val (.int i3), .val (.int i4), .val (.int i5), .val (.int s1), .val (.int s2), .val (.int r3), .val (.int r4), .val (.int r5), .val (.int r6), .val (.int r7), .val (.int r8), .val (.int r9), .val (.int r10), .val (.ref a11), .val (.ref c15), .val (.int r7), .val (.int r8), .val (.int r9), .unset] [(.int r10)])) _
      refine XS.istore P15.here hx rfl (hb hby at_151) rfl (l' := #[.val (.int i1), .val (.int i2), .val (.int i3), .val (.int i4), .val (.int i5), .val (.int s1), .val (.int s2), .val (.int r3), .val (.int r4), .val (.int r5), .val (.int r6), .val (.int r7), .val (.int r8), .val (.int r9), .val (.int r10), .val (.ref a11), .val (.ref c15), .val (.int r7), .val (.int r8), .val (.int r9), .val (.int r10)]) rfl ?_
      show Steps p.tables e below (T15.setTop (mkF m 153 #[.val (.int i1), .val (.int i2), .val (.int i3), .val (.int i4), .val (.int i5), .val (.int s1), .val (.int s2), .val (.int r3), .val (.int r4), .val (.int r5), .val (.int r6), .val (.int r7), .val (.int r8), .val (.int r9), .val (.int r10), .val (.ref a11), .val (.ref c15), .val (.int r7), .val (.int r8), .val (.int r9), .val (.int r10)] [])) _
      refine XS.goto P15.here hx rfl (pc0 := 153) (pc' := 172) rfl (hb hby at_153) (by decide) (by decide) ?_
      show Steps p.tables e below (T15.setTop (mkF m 172 #[.val (.int i1), .val (.int i2), .val (.int i3), .val (.int i4), .val (.int i5), .val (.int s1), .val (.int s2), .val (.int r3), .val (.int r4), .val (.int r5), .val (.int r6), .val (.int r7), .val (.int r8), .val (.int r9), .val (.int r10), .val (.ref a11), .val (.ref c15), .val (.int r7), .val (.int r8), .val (.int r9), .val (.int r10)] [])) _
      refine XS.iload P15.here hx rfl (hb hby at_172) rfl ?_
      show Steps p.tables e below (T15.setTop (mkF m 174 #[.val (.int i1), .val (.int i2), .val (.int i3), .val (.int i4), .val (.int i5), .val (.int s1), .val (.int s2), .val (.int r3), .val (.int r4), .val (.int r5), .val (.int r6), .val (.int r7), .val (.int r8), .val (.int r9), .val (.int r10), .val (.ref a11), .val (.ref c15), .val (.int r7), .val (.int r8), .val (.int r9), .val (.int r10)] [(.int r9)])) _
      refine XS.iload P15.here hx rfl (hb hby at_174) rfl ?_
      show Steps p.tables e below (T15.setTop (mkF m 176 #[.val (.int i1), .val (.int i2), .val (.int i3), .val (.int i4), .val (.int i5), .val (.int s1), .val (.int s2), .val (.int r3), .val (.int r4), .val (.int r5), .val (.int r6), .val (.int r7), .val (.int r8), .val (.int r9), .val (.int r10), .val (.ref a11), .val (.ref c15), .val (.int r7), .val (.int r8), .val (.int r9), .val (.int r10)] [(.int r8), (.int r9)])) _
      refine XS.iconst P15.here hx rfl (hb hby at_176) ?_
      show Steps p.tables e below (T15.setTop (mkF m 177 #[.val (.int i1), .val (.int i2), .val (.int i3), .val (.int i4), .val (.int i5), .val (.int s1), .val (.int s2), .val (.int r3), .val (.int r4), .val (.int r5), .val (.int r6), .val (.int r7), .val (.int r8), .val (.int r9), .val (.int r10), .val (.ref a11), .val (.ref c15), .val (.int r7), .val (.int r8), .val (.int r9), .val (.int r10)] [(.int (1 : Int32)), (.int r8), (.int r9)])) _
      refine XS.iadd P15.here hx rfl (hb hby at_177) rfl ?_
      show Steps p.tables e below (T15.setTop (mkF m 178 #[.val (.int i1), .val (.int i2), .val (.int i3), .val (.int i4), .val (.int i5), .val (.int s1), .val (.int s2), .val (.int r3), .val (.int r4), .val (.int r5), .val (.int r6), .val (.int r7), .val (.int r8), .val (.int r9), .val (.int r10), .val (.ref a11), .val (.ref c15), .val (.int r7), .val (.int r8), .val (.int r9), .val (.int r10)] [(.int (r8 + (1 : Int32))), (.int r9)])) _
      exact kQ
    show OwnDone p e below _ (T15.setTop (mkF m 178 #[.val (.int i1), .val (.int i2), .val (.int i3), .val (.int i4), .val (.int i5), .val (.int s1), .val (.int s2), .val (.int r3), .val (.int r4), .val (.int r5), .val (.int r6), .val (.int r7), .val (.int r8), .val (.int r9), .val (.int r10), .val (.ref a11), .val (.ref c15), .val (.int r7), .val (.int r8), .val (.int r9), .val (.int r10)] [(.int (r8 + (1 : Int32))), (.int r9)]))
    refine OwnDone.go (A := (T15.setTop (mkF m 181 #[.val (.int i1), .val (.int i2), .val (.int i3), .val (.int i4), .val (.int i5), .val (.int s1), .val (.int s2), .val (.int r3), .val (.int r4), .val (.int r5), .val (.int r6), .val (.int r7), .val (.int r8), .val (.int r9), .val (.int r10), .val (.ref a11), .val (.ref c15), .val (.int r7), .val (.int r8), .val (.int r9), .val (.int r10)] []))) (fun tQ kQ => XS.icmpNo P15.here hx rfl (hb hby at_178) rfl (XT.ii_gt_f hm) kQ) ?_
    show OwnDone p e below _ (T15.setTop (mkF m 181 #[.val (.int i1), .val (.int i2), .val (.int i3), .val (.int i4), .val (.int i5), .val (.int s1), .val (.int s2), .val (.int r3), .val (.int r4), .val (.int r5), .val (.int r6), .val (.int r7), .val (.int r8), .val (.int r9), .val (.int r10), .val (.ref a11), .val (.ref c15), .val (.int r7), .val (.int r8), .val (.int r9), .val (.int r10)] []))
    refine OwnDone.go (A := (T15.setTop (mkF m 183 #[.val (.int i1), .val (.int i2), .val (.int i3), .val (.int i4), .val (.int i5), .val (.int s1), .val (.int s2), .val (.int r3), .val (.int r4), .val (.int r5), .val (.int r6), .val (.int r7), .val (.int r8), .val (.int r9), .val (.int r10), .val (.ref a11), .val (.ref c15), .val (.int r7), .val (.int r8), .val (.int r9), .val (.int r10)] [(.ref c15)]))) (fun tQ kQ => ?_) ?_
    · refine XS.aload P15.here hx rfl (hb hby at_181) rfl rfl ?_
      show Steps p.tables e below (T15.setTop (mkF m 183 #[.val (.int i1), .val (.int i2), .val (.int i3), .val (.int i4), .val (.int i5), .val (.int s1), .val (.int s2), .val (.int r3), .val (.int r4), .val (.int r5), .val (.int r6), .val (.int r7), .val (.int r8), .val (.int r9), .val (.int r10), .val (.ref a11), .val (.ref c15), .val (.int r7), .val (.int r8), .val (.int r9), .val (.int r10)] [(.ref c15)])) _
      exact kQ
    show OwnDone p e below _ (T15.setTop (mkF m 183 #[.val (.int i1), .val (.int i2), .val (.int i3), .val (.int i4), .val (.int i5), .val (.int s1), .val (.int s2), .val (.int r3), .val (.int r4), .val (.int r5), .val (.int r6), .val (.int r7), .val (.int r8), .val (.int r9), .val (.int r10), .val (.ref a11), .val (.ref c15), .val (.int r7), .val (.int r8), .val (.int r9), .val (.int r10)] [(.ref c15)]))
    refine own_callV (y := (⟨"com/example/bounded_array/boundedarray/regex/CodePointSet", "ranges", "()I"⟩ : MethodName)) (z := (⟨"com/example/bounded_array/boundedarray/regex/CodePointSet", "ranges", "()I"⟩ : MethodName)) (CC := "com/example/bounded_array/boundedarray/regex/CodePointSet") C P15 O15.1 (hw _ (List.mem_of_getElem? (i := 179) rfl)) (hw _ (List.mem_of_getElem? (i := 180) rfl)) (hw _ (List.mem_of_getElem? (i := 182) rfl)) (hw _ (List.mem_of_getElem? (i := 182) rfl)) (hw _ (List.mem_of_getElem? (i := 181) rfl)) (hw _ (List.mem_of_getElem? (i := 145) rfl)) (hw _ (List.mem_of_getElem? (i := 183) rfl)) (by decide) (rmrg2 l Z a0 hw c15 ra15 k15 hs15 lo15 hi15 r7 r15 h15 P15.old O15 Y15) (as := []) (rest := []) pd_20 rfl rfl (wd := 0) rfl rfl at_183 all0 (by decide) (by decide) (by decide) (by decide) (fun T18 h18 v18 P18 K18 hQ18 => ?_)
    obtain ⟨rfl, rfl⟩ := hQ18
    show OwnDone p e below _ (T18.setTop (mkF m 186 #[.val (.int i1), .val (.int i2), .val (.int i3), .val (.int i4), .val (.int i5), .val (.int s1), .val (.int s2), .val (.int r3), .val (.int r4), .val (.int r5), .val (.int r6), .val (.int r7), .val (.int r8), .val (.int r9), .val (.int r10), .val (.ref a11), .val (.ref c15), .val (.int r7), .val (.int r8), .val (.int r9), .val (.int r10)] [(.int (1 : Int32))]))
    refine OwnDone.go (A := (T18.setTop (mkF m 187 #[.val (.int i1), .val (.int i2), .val (.int i3), .val (.int i4), .val (.int i5), .val (.int s1), .val (.int s2), .val (.int r3), .val (.int r4), .val (.int r5), .val (.int r6), .val (.int r7), .val (.int r8), .val (.int r9), .val (.int r10), .val (.ref a11), .val (.ref c15), .val (.int r7), .val (.int r8), .val (.int r9), .val (.int r10)] [(.int (1 : Int32)), (.int (1 : Int32))]))) (fun tQ kQ => ?_) ?_
    · refine XS.iconst P18.here hx rfl (hb hby at_186) ?_
      show Steps p.tables e below (T18.setTop (mkF m 187 #[.val (.int i1), .val (.int i2), .val (.int i3), .val (.int i4), .val (.int i5), .val (.int s1), .val (.int s2), .val (.int r3), .val (.int r4), .val (.int r5), .val (.int r6), .val (.int r7), .val (.int r8), .val (.int r9), .val (.int r10), .val (.ref a11), .val (.ref c15), .val (.int r7), .val (.int r8), .val (.int r9), .val (.int r10)] [(.int (1 : Int32)), (.int (1 : Int32))])) _
      exact kQ
    show OwnDone p e below _ (T18.setTop (mkF m 187 #[.val (.int i1), .val (.int i2), .val (.int i3), .val (.int i4), .val (.int i5), .val (.int s1), .val (.int s2), .val (.int r3), .val (.int r4), .val (.int r5), .val (.int r6), .val (.int r7), .val (.int r8), .val (.int r9), .val (.int r10), .val (.ref a11), .val (.ref c15), .val (.int r7), .val (.int r8), .val (.int r9), .val (.int r10)] [(.int (1 : Int32)), (.int (1 : Int32))]))
    refine OwnDone.go (A := (T18.setTop (mkF m 190 #[.val (.int i1), .val (.int i2), .val (.int i3), .val (.int i4), .val (.int i5), .val (.int s1), .val (.int s2), .val (.int r3), .val (.int r4), .val (.int r5), .val (.int r6), .val (.int r7), .val (.int r8), .val (.int r9), .val (.int r10), .val (.ref a11), .val (.ref c15), .val (.int r7), .val (.int r8), .val (.int r9), .val (.int r10)] []))) (fun tQ kQ => XS.icmpNo P18.here hx rfl (hb hby at_187) rfl (XT.ii_ne_f rfl) kQ) ?_
    show OwnDone p e below _ (T18.setTop (mkF m 190 #[.val (.int i1), .val (.int i2), .val (.int i3), .val (.int i4), .val (.int i5), .val (.int s1), .val (.int s2), .val (.int r3), .val (.int r4), .val (.int r5), .val (.int r6), .val (.int r7), .val (.int r8), .val (.int r9), .val (.int r10), .val (.ref a11), .val (.ref c15), .val (.int r7), .val (.int r8), .val (.int r9), .val (.int r10)] []))
    refine OwnDone.go (A := (T18.setTop (mkF m 193 #[.val (.int i1), .val (.int i2), .val (.int i3), .val (.int i4), .val (.int i5), .val (.int s1), .val (.int s2), .val (.int r3), .val (.int r4), .val (.int r5), .val (.int r6), .val (.int r7), .val (.int r8), .val (.int r9), .val (.int r10), .val (.ref a11), .val (.ref c15), .val (.int r7), .val (.int r8), .val (.int r9), .val (.int r10)] [(.int (0 : Int32)), (.ref c15)]))) (fun tQ kQ => ?_) ?_
    · refine XS.aload P18.here hx rfl (hb hby at_190) rfl rfl ?_
      show Steps p.tables e below (T18.setTop (mkF m 192 #[.val (.int i1), .val (.int i2), .val (.int i3), .val (.int i4), .val (.int i5), .val (.int s1), .val (.int s2), .val (.int r3), .val (.int r4), .val (.int r5), .val (.int r6), .val (.int r7), .val (.int r8), .val (.int r9), .val (.int r10), .val (.ref a11), .val (.ref c15), .val (.int r7), .val (.int r8), .val (.int r9), .val (.int r10)] [(.ref c15)])) _
      refine XS.iconst P18.here hx rfl (hb hby at_192) ?_
      show Steps p.tables e below (T18.setTop (mkF m 193 #[.val (.int i1), .val (.int i2), .val (.int i3), .val (.int i4), .val (.int i5), .val (.int s1), .val (.int s2), .val (.int r3), .val (.int r4), .val (.int r5), .val (.int r6), .val (.int r7), .val (.int r8), .val (.int r9), .val (.int r10), .val (.ref a11), .val (.ref c15), .val (.int r7), .val (.int r8), .val (.int r9), .val (.int r10)] [(.int (0 : Int32)), (.ref c15)])) _
      exact kQ
    show OwnDone p e below _ (T18.setTop (mkF m 193 #[.val (.int i1), .val (.int i2), .val (.int i3), .val (.int i4), .val (.int i5), .val (.int s1), .val (.int s2), .val (.int r3), .val (.int r4), .val (.int r5), .val (.int r6), .val (.int r7), .val (.int r8), .val (.int r9), .val (.int r10), .val (.ref a11), .val (.ref c15), .val (.int r7), .val (.int r8), .val (.int r9), .val (.int r10)] [(.int (0 : Int32)), (.ref c15)]))
    refine own_callV (y := (⟨"com/example/bounded_array/boundedarray/regex/CodePointSet", "first", "(I)I"⟩ : MethodName)) (z := (⟨"com/example/bounded_array/boundedarray/regex/CodePointSet", "first", "(I)I"⟩ : MethodName)) (CC := "com/example/bounded_array/boundedarray/regex/CodePointSet") C P18 O15.1 (hw _ (List.mem_of_getElem? (i := 184) rfl)) (hw _ (List.mem_of_getElem? (i := 185) rfl)) (hw _ (List.mem_of_getElem? (i := 187) rfl)) (hw _ (List.mem_of_getElem? (i := 187) rfl)) (hw _ (List.mem_of_getElem? (i := 186) rfl)) (hw _ (List.mem_of_getElem? (i := 145) rfl)) (hw _ (List.mem_of_getElem? (i := 188) rfl)) (by decide) (rmfs20 l Z a0 hw c15 ra15 k15 hs15 lo15 hi15 r7 r15 h15 P18.old O15 Y15) (as := [(.int (0 : Int32))]) (rest := []) pd_21 rfl rfl (wd := 0) rfl rfl at_193 all0 (by decide) (by decide) (by decide) (by decide) (fun T19 h19 v19 P19 K19 hQ19 => ?_)
    obtain ⟨rfl, rfl⟩ := hQ19
    show OwnDone p e below _ (T19.setTop (mkF m 196 #[.val (.int i1), .val (.int i2), .val (.int i3), .val (.int i4), .val (.int i5), .val (.int s1), .val (.int s2), .val (.int r3), .val (.int r4), .val (.int r5), .val (.int r6), .val (.int r7), .val (.int r8), .val (.int r9), .val (.int r10), .val (.ref a11), .val (.ref c15), .val (.int r7), .val (.int r8), .val (.int r9), .val (.int r10)] [(.int r7)]))
    refine OwnDone.go (A := (T19.setTop (mkF m 198 #[.val (.int i1), .val (.int i2), .val (.int i3), .val (.int i4), .val (.int i5), .val (.int s1), .val (.int s2), .val (.int r3), .val (.int r4), .val (.int r5), .val (.int r6), .val (.int r7), .val (.int r8), .val (.int r9), .val (.int r10), .val (.ref a11), .val (.ref c15), .val (.int r7), .val (.int r8), .val (.int r9), .val (.int r10)] [(.int r7), (.int r7)]))) (fun tQ kQ => ?_) ?_
    · refine XS.iload P19.here hx rfl (hb hby at_196) rfl ?_
      show Steps p.tables e below (T19.setTop (mkF m 198 #[.val (.int i1), .val (.int i2), .val (.int i3), .val (.int i4), .val (.int i5), .val (.int s1), .val (.int s2), .val (.int r3), .val (.int r4), .val (.int r5), .val (.int r6), .val (.int r7), .val (.int r8), .val (.int r9), .val (.int r10), .val (.ref a11), .val (.ref c15), .val (.int r7), .val (.int r8), .val (.int r9), .val (.int r10)] [(.int r7), (.int r7)])) _
      exact kQ
    show OwnDone p e below _ (T19.setTop (mkF m 198 #[.val (.int i1), .val (.int i2), .val (.int i3), .val (.int i4), .val (.int i5), .val (.int s1), .val (.int s2), .val (.int r3), .val (.int r4), .val (.int r5), .val (.int r6), .val (.int r7), .val (.int r8), .val (.int r9), .val (.int r10), .val (.ref a11), .val (.ref c15), .val (.int r7), .val (.int r8), .val (.int r9), .val (.int r10)] [(.int r7), (.int r7)]))
    refine OwnDone.go (A := (T19.setTop (mkF m 201 #[.val (.int i1), .val (.int i2), .val (.int i3), .val (.int i4), .val (.int i5), .val (.int s1), .val (.int s2), .val (.int r3), .val (.int r4), .val (.int r5), .val (.int r6), .val (.int r7), .val (.int r8), .val (.int r9), .val (.int r10), .val (.ref a11), .val (.ref c15), .val (.int r7), .val (.int r8), .val (.int r9), .val (.int r10)] []))) (fun tQ kQ => XS.icmpNo P19.here hx rfl (hb hby at_198) rfl (XT.ii_ne_f rfl) kQ) ?_
    show OwnDone p e below _ (T19.setTop (mkF m 201 #[.val (.int i1), .val (.int i2), .val (.int i3), .val (.int i4), .val (.int i5), .val (.int s1), .val (.int s2), .val (.int r3), .val (.int r4), .val (.int r5), .val (.int r6), .val (.int r7), .val (.int r8), .val (.int r9), .val (.int r10), .val (.ref a11), .val (.ref c15), .val (.int r7), .val (.int r8), .val (.int r9), .val (.int r10)] []))
    refine OwnDone.go (A := (T19.setTop (mkF m 204 #[.val (.int i1), .val (.int i2), .val (.int i3), .val (.int i4), .val (.int i5), .val (.int s1), .val (.int s2), .val (.int r3), .val (.int r4), .val (.int r5), .val (.int r6), .val (.int r7), .val (.int r8), .val (.int r9), .val (.int r10), .val (.ref a11), .val (.ref c15), .val (.int r7), .val (.int r8), .val (.int r9), .val (.int r10)] [(.int (0 : Int32)), (.ref c15)]))) (fun tQ kQ => ?_) ?_
    · refine XS.aload P19.here hx rfl (hb hby at_201) rfl rfl ?_
      show Steps p.tables e below (T19.setTop (mkF m 203 #[.val (.int i1), .val (.int i2), .val (.int i3), .val (.int i4), .val (.int i5), .val (.int s1), .val (.int s2), .val (.int r3), .val (.int r4), .val (.int r5), .val (.int r6), .val (.int r7), .val (.int r8), .val (.int r9), .val (.int r10), .val (.ref a11), .val (.ref c15), .val (.int r7), .val (.int r8), .val (.int r9), .val (.int r10)] [(.ref c15)])) _
      refine XS.iconst P19.here hx rfl (hb hby at_203) ?_
      show Steps p.tables e below (T19.setTop (mkF m 204 #[.val (.int i1), .val (.int i2), .val (.int i3), .val (.int i4), .val (.int i5), .val (.int s1), .val (.int s2), .val (.int r3), .val (.int r4), .val (.int r5), .val (.int r6), .val (.int r7), .val (.int r8), .val (.int r9), .val (.int r10), .val (.ref a11), .val (.ref c15), .val (.int r7), .val (.int r8), .val (.int r9), .val (.int r10)] [(.int (0 : Int32)), (.ref c15)])) _
      exact kQ
    show OwnDone p e below _ (T19.setTop (mkF m 204 #[.val (.int i1), .val (.int i2), .val (.int i3), .val (.int i4), .val (.int i5), .val (.int s1), .val (.int s2), .val (.int r3), .val (.int r4), .val (.int r5), .val (.int r6), .val (.int r7), .val (.int r8), .val (.int r9), .val (.int r10), .val (.ref a11), .val (.ref c15), .val (.int r7), .val (.int r8), .val (.int r9), .val (.int r10)] [(.int (0 : Int32)), (.ref c15)]))
    refine own_callV (y := (⟨"com/example/bounded_array/boundedarray/regex/CodePointSet", "last", "(I)I"⟩ : MethodName)) (z := (⟨"com/example/bounded_array/boundedarray/regex/CodePointSet", "last", "(I)I"⟩ : MethodName)) (CC := "com/example/bounded_array/boundedarray/regex/CodePointSet") C P19 O15.1 (hw _ (List.mem_of_getElem? (i := 189) rfl)) (hw _ (List.mem_of_getElem? (i := 190) rfl)) (hw _ (List.mem_of_getElem? (i := 192) rfl)) (hw _ (List.mem_of_getElem? (i := 192) rfl)) (hw _ (List.mem_of_getElem? (i := 191) rfl)) (hw _ (List.mem_of_getElem? (i := 145) rfl)) (hw _ (List.mem_of_getElem? (i := 193) rfl)) (by decide) (rmls20 l Z a0 hw c15 ra15 k15 hs15 lo15 hi15 r7 r15 h15 P19.old O15 Y15) (as := [(.int (0 : Int32))]) (rest := []) pd_21 rfl rfl (wd := 0) rfl rfl at_204 all0 (by decide) (by decide) (by decide) (by decide) (fun T20 h20 v20 P20 K20 hQ20 => ?_)
    obtain ⟨rfl, rfl⟩ := hQ20
    show OwnDone p e below _ (T20.setTop (mkF m 207 #[.val (.int i1), .val (.int i2), .val (.int i3), .val (.int i4), .val (.int i5), .val (.int s1), .val (.int s2), .val (.int r3), .val (.int r4), .val (.int r5), .val (.int r6), .val (.int r7), .val (.int r8), .val (.int r9), .val (.int r10), .val (.ref a11), .val (.ref c15), .val (.int r7), .val (.int r8), .val (.int r9), .val (.int r10)] [(.int r15)]))
    refine OwnDone.go (A := (T20.setTop (mkF m 211 #[.val (.int i1), .val (.int i2), .val (.int i3), .val (.int i4), .val (.int i5), .val (.int s1), .val (.int s2), .val (.int r3), .val (.int r4), .val (.int r5), .val (.int r6), .val (.int r7), .val (.int r8), .val (.int r9), .val (.int r10), .val (.ref a11), .val (.ref c15), .val (.int r7), .val (.int r8), .val (.int r9), .val (.int r10)] [(.int r10), (.int r8), (.int r15)]))) (fun tQ kQ => ?_) ?_
    · refine XS.iload P20.here hx rfl (hb hby at_207) rfl ?_
      show Steps p.tables e below (T20.setTop (mkF m 209 #[.val (.int i1), .val (.int i2), .val (.int i3), .val (.int i4), .val (.int i5), .val (.int s1), .val (.int s2), .val (.int r3), .val (.int r4), .val (.int r5), .val (.int r6), .val (.int r7), .val (.int r8), .val (.int r9), .val (.int r10), .val (.ref a11), .val (.ref c15), .val (.int r7), .val (.int r8), .val (.int r9), .val (.int r10)] [(.int r8), (.int r15)])) _
      refine XS.iload P20.here hx rfl (hb hby at_209) rfl ?_
      show Steps p.tables e below (T20.setTop (mkF m 211 #[.val (.int i1), .val (.int i2), .val (.int i3), .val (.int i4), .val (.int i5), .val (.int s1), .val (.int s2), .val (.int r3), .val (.int r4), .val (.int r5), .val (.int r6), .val (.int r7), .val (.int r8), .val (.int r9), .val (.int r10), .val (.ref a11), .val (.ref c15), .val (.int r7), .val (.int r8), .val (.int r9), .val (.int r10)] [(.int r10), (.int r8), (.int r15)])) _
      exact kQ
    show OwnDone p e below _ (T20.setTop (mkF m 211 #[.val (.int i1), .val (.int i2), .val (.int i3), .val (.int i4), .val (.int i5), .val (.int s1), .val (.int s2), .val (.int r3), .val (.int r4), .val (.int r5), .val (.int r6), .val (.int r7), .val (.int r8), .val (.int r9), .val (.int r10), .val (.ref a11), .val (.ref c15), .val (.int r7), .val (.int r8), .val (.int r9), .val (.int r10)] [(.int r10), (.int r8), (.int r15)]))
    refine own_callS (y := (⟨"java/lang/Math", "max", "(II)I"⟩ : MethodName)) C P20 (hw _ (List.mem_of_getElem? (i := 10) rfl)) (hw _ (List.mem_of_getElem? (i := 11) rfl)) (hw _ (List.mem_of_getElem? (i := 8) rfl)) (hw _ (List.mem_of_getElem? (i := 12) rfl)) (by decide) (rmmax l Z a0 hw r8 r10 h15 P20.old) (as := [(.int r8), (.int r10)]) (rest := [(.int r15)]) pd_10 rfl rfl (wd := 1) rfl rfl at_211 all0 (by decide) (by decide) (by decide) (by decide) (fun T21 h21 v21 P21 K21 hQ21 => ?_)
    obtain ⟨r21, rfl, mx21, rfl⟩ := hQ21
    show OwnDone p e below _ (T21.setTop (mkF m 214 #[.val (.int i1), .val (.int i2), .val (.int i3), .val (.int i4), .val (.int i5), .val (.int s1), .val (.int s2), .val (.int r3), .val (.int r4), .val (.int r5), .val (.int r6), .val (.int r7), .val (.int r8), .val (.int r9), .val (.int r10), .val (.ref a11), .val (.ref c15), .val (.int r7), .val (.int r8), .val (.int r9), .val (.int r10)] [(.int r21), (.int r15)]))
    refine OwnDone.go (A := (T21.setTop (mkF m 217 #[.val (.int i1), .val (.int i2), .val (.int i3), .val (.int i4), .val (.int i5), .val (.int s1), .val (.int s2), .val (.int r3), .val (.int r4), .val (.int r5), .val (.int r6), .val (.int r7), .val (.int r8), .val (.int r9), .val (.int r10), .val (.ref a11), .val (.ref c15), .val (.int r7), .val (.int r8), .val (.int r9), .val (.int r10)] []))) (fun tQ kQ => XS.icmpNo P21.here hx rfl (hb hby at_214) rfl (XT.ii_ne_f (own_mxeq mx15 mx21)) kQ) ?_
    show OwnDone p e below _ (T21.setTop (mkF m 217 #[.val (.int i1), .val (.int i2), .val (.int i3), .val (.int i4), .val (.int i5), .val (.int s1), .val (.int s2), .val (.int r3), .val (.int r4), .val (.int r5), .val (.int r6), .val (.int r7), .val (.int r8), .val (.int r9), .val (.int r10), .val (.ref a11), .val (.ref c15), .val (.int r7), .val (.int r8), .val (.int r9), .val (.int r10)] []))
    refine OwnDone.go (A := (T21.setTop (mkF m 222 #[.val (.int i1), .val (.int i2), .val (.int i3), .val (.int i4), .val (.int i5), .val (.int s1), .val (.int s2), .val (.int r3), .val (.int r4), .val (.int r5), .val (.int r6), .val (.int r7), .val (.int r8), .val (.int r9), .val (.int r10), .val (.ref a11), .val (.ref c15), .val (.int r7), .val (.int r8), .val (.int r9), .val (.int r10)] [(.int (1 : Int32))]))) (fun tQ kQ => ?_) ?_
    · refine XS.iconst P21.here hx rfl (hb hby at_217) ?_
      show Steps p.tables e below (T21.setTop (mkF m 218 #[.val (.int i1), .val (.int i2), .val (.int i3), .val (.int i4), .val (.int i5), .val (.int s1), .val (.int s2), .val (.int r3), .val (.int r4), .val (.int r5), .val (.int r6), .val (.int r7), .val (.int r8), .val (.int r9), .val (.int r10), .val (.ref a11), .val (.ref c15), .val (.int r7), .val (.int r8), .val (.int r9), .val (.int r10)] [(.int (1 : Int32))])) _
      refine XS.goto P21.here hx rfl (pc0 := 218) (pc' := 222) rfl (hb hby at_218) (by decide) (by decide) ?_
      show Steps p.tables e below (T21.setTop (mkF m 222 #[.val (.int i1), .val (.int i2), .val (.int i3), .val (.int i4), .val (.int i5), .val (.int s1), .val (.int s2), .val (.int r3), .val (.int r4), .val (.int r5), .val (.int r6), .val (.int r7), .val (.int r8), .val (.int r9), .val (.int r10), .val (.ref a11), .val (.ref c15), .val (.int r7), .val (.int r8), .val (.int r9), .val (.int r10)] [(.int (1 : Int32))])) _
      exact kQ
    show OwnDone p e below _ (T21.setTop (mkF m 222 #[.val (.int i1), .val (.int i2), .val (.int i3), .val (.int i4), .val (.int i5), .val (.int s1), .val (.int s2), .val (.int r3), .val (.int r4), .val (.int r5), .val (.int r6), .val (.int r7), .val (.int r8), .val (.int r9), .val (.int r10), .val (.ref a11), .val (.ref c15), .val (.int r7), .val (.int r8), .val (.int r9), .val (.int r10)] [(.int (1 : Int32))]))
    refine own_retN C P21 (by simp) (z' := (1 : Int32)) (by decide) at_222 (by decide) (by decide) rfl
  · show OwnDone p e below _ (T14.setTop (mkF m 125 #[.val (.int i1), .val (.int i2), .val (.int i3), .val (.int i4), .val (.int i5), .val (.int s1), .val (.int s2), .val (.int r3), .val (.int r4), .val (.int r5), .val (.int r6), .val (.int r7), .val (.int r8), .val (.int r9), .val (.int r10), .val (.ref a11), .unset, .unset, .unset, .unset, .unset] [(.ref a11)]))
    refine own_callV (y := (⟨"com/example/bounded_array/boundedarray/regex/CodePointSet$Builder", "build", "()Lcom/example/bounded_array/boundedarray/regex/CodePointSet;"⟩ : MethodName)) (z := (⟨"com/example/bounded_array/boundedarray/regex/CodePointSet$Builder", "build", "()Lcom/example/bounded_array/boundedarray/regex/CodePointSet;"⟩ : MethodName)) (CC := "com/example/bounded_array/boundedarray/regex/CodePointSet$Builder") C P14 O14.1 (hw _ (List.mem_of_getElem? (i := 122) rfl)) (hw _ (List.mem_of_getElem? (i := 123) rfl)) (hw _ (List.mem_of_getElem? (i := 125) rfl)) (hw _ (List.mem_of_getElem? (i := 125) rfl)) (hw _ (List.mem_of_getElem? (i := 124) rfl)) (hw _ (List.mem_of_getElem? (i := 15) rfl)) (hw _ (List.mem_of_getElem? (i := 126) rfl)) (by decide) (rmbn l Z a0 hw a11 b12 s12 k12 r7 r8 r9 r10 r7 r8 r9 r10 h14 P14.old O14 Y14 nb12 hp hs hm) (as := []) (rest := []) pd_19 rfl rfl (wd := 0) rfl rfl at_125 all0 (by decide) (by decide) (by decide) (by decide) (fun T22 h22 v22 P22 K22 hQ22 => ?_)
    obtain ⟨c22, ra22, k22, hs22, lo22, hi22, rfl, O22, Y22⟩ := hQ22
    have O23_a11 := O14.keep K22 nin0
    have Y24_b12 := Y14.keep K22 nin0
    show OwnDone p e below _ (T22.setTop (mkF m 128 #[.val (.int i1), .val (.int i2), .val (.int i3), .val (.int i4), .val (.int i5), .val (.int s1), .val (.int s2), .val (.int r3), .val (.int r4), .val (.int r5), .val (.int r6), .val (.int r7), .val (.int r8), .val (.int r9), .val (.int r10), .val (.ref a11), .unset, .unset, .unset, .unset, .unset] [(.ref c22)]))
    refine OwnDone.go (A := (T22.setTop (mkF m 134 #[.val (.int i1), .val (.int i2), .val (.int i3), .val (.int i4), .val (.int i5), .val (.int s1), .val (.int s2), .val (.int r3), .val (.int r4), .val (.int r5), .val (.int r6), .val (.int r7), .val (.int r8), .val (.int r9), .val (.int r10), .val (.ref a11), .val (.ref c22), .unset, .unset, .unset, .unset] [(.int r9), (.int r7)]))) (fun tQ kQ => ?_) ?_
    · refine XS.astore P22.here hx rfl (hb hby at_128) rfl rfl (l' := #[.val (.int i1), .val (.int i2), .val (.int i3), .val (.int i4), .val (.int i5), .val (.int s1), .val (.int s2), .val (.int r3), .val (.int r4), .val (.int r5), .val (.int r6), .val (.int r7), .val (.int r8), .val (.int r9), .val (.int r10), .val (.ref a11), .val (.ref c22), .unset, .unset, .unset, .unset]) rfl ?_
      show Steps p.tables e below (T22.setTop (mkF m 130 #[.val (.int i1), .val (.int i2), .val (.int i3), .val (.int i4), .val (.int i5), .val (.int s1), .val (.int s2), .val (.int r3), .val (.int r4), .val (.int r5), .val (.int r6), .val (.int r7), .val (.int r8), .val (.int r9), .val (.int r10), .val (.ref a11), .val (.ref c22), .unset, .unset, .unset, .unset] [])) _
      refine XS.iload P22.here hx rfl (hb hby at_130) rfl ?_
      show Steps p.tables e below (T22.setTop (mkF m 132 #[.val (.int i1), .val (.int i2), .val (.int i3), .val (.int i4), .val (.int i5), .val (.int s1), .val (.int s2), .val (.int r3), .val (.int r4), .val (.int r5), .val (.int r6), .val (.int r7), .val (.int r8), .val (.int r9), .val (.int r10), .val (.ref a11), .val (.ref c22), .unset, .unset, .unset, .unset] [(.int r7)])) _
      refine XS.iload P22.here hx rfl (hb hby at_132) rfl ?_
      show Steps p.tables e below (T22.setTop (mkF m 134 #[.val (.int i1), .val (.int i2), .val (.int i3), .val (.int i4), .val (.int i5), .val (.int s1), .val (.int s2), .val (.int r3), .val (.int r4), .val (.int r5), .val (.int r6), .val (.int r7), .val (.int r8), .val (.int r9), .val (.int r10), .val (.ref a11), .val (.ref c22), .unset, .unset, .unset, .unset] [(.int r9), (.int r7)])) _
      exact kQ
    show OwnDone p e below _ (T22.setTop (mkF m 134 #[.val (.int i1), .val (.int i2), .val (.int i3), .val (.int i4), .val (.int i5), .val (.int s1), .val (.int s2), .val (.int r3), .val (.int r4), .val (.int r5), .val (.int r6), .val (.int r7), .val (.int r8), .val (.int r9), .val (.int r10), .val (.ref a11), .val (.ref c22), .unset, .unset, .unset, .unset] [(.int r9), (.int r7)]))
    refine OwnDone.go (A := (T22.setTop (mkF m 137 #[.val (.int i1), .val (.int i2), .val (.int i3), .val (.int i4), .val (.int i5), .val (.int s1), .val (.int s2), .val (.int r3), .val (.int r4), .val (.int r5), .val (.int r6), .val (.int r7), .val (.int r8), .val (.int r9), .val (.int r10), .val (.ref a11), .val (.ref c22), .unset, .unset, .unset, .unset] []))) (fun tQ kQ => XS.icmpNo P22.here hx rfl (hb hby at_134) rfl (XT.ii_gt_f hA) kQ) ?_
    show OwnDone p e below _ (T22.setTop (mkF m 137 #[.val (.int i1), .val (.int i2), .val (.int i3), .val (.int i4), .val (.int i5), .val (.int s1), .val (.int s2), .val (.int r3), .val (.int r4), .val (.int r5), .val (.int r6), .val (.int r7), .val (.int r8), .val (.int r9), .val (.int r10), .val (.ref a11), .val (.ref c22), .unset, .unset, .unset, .unset] []))
    refine OwnDone.go (A := (T22.setTop (mkF m 178 #[.val (.int i1), .val (.int i2), .val (.int i3), .val (.int i4), .val (.int i5), .val (.int s1), .val (.int s2), .val (.int r3), .val (.int r4), .val (.int r5), .val (.int r6), .val (.int r7), .val (.int r8), .val (.int r9), .val (.int r10), .val (.ref a11), .val (.ref c22), .val (.int r7), .val (.int r8), .val (.int r9), .val (.int r10)] [(.int (r8 + (1 : Int32))), (.int r9)]))) (fun tQ kQ => ?_) ?_
    · refine XS.iload P22.here hx rfl (hb hby at_137) rfl ?_
      show Steps p.tables e below (T22.setTop (mkF m 139 #[.val (.int i1), .val (.int i2), .val (.int i3), .val (.int i4), .val (.int i5), .val (.int s1), .val (.int s2), .val (.int r3), .val (.int r4), .val (.int r5), .val (.int r6), .val (.int r7), .val (.int r8), .val (.int r9), .val (.int r10), .val (.ref a11), .val (.ref c22), .unset, .unset, .unset, .unset] [(.int r7)])) _
      refine XS.istore P22.here hx rfl (hb hby at_139) rfl (l' := #[.val (.int i1), .val (.int i2), .val (.int i3), .val (.int i4), .val (.int i5), .val (.int s1), .val (.int s2), .val (.int r3), .val (.int r4), .val (.int r5), .val (.int r6), .val (.int r7), .val (.int r8), .val (.int r9), .val (.int r10), .val (.ref a11), .val (.ref c22), .val (.int r7), .unset, .unset, .unset]) rfl ?_
      show Steps p.tables e below (T22.setTop (mkF m 141 #[.val (.int i1), .val (.int i2), .val (.int i3), .val (.int i4), .val (.int i5), .val (.int s1), .val (.int s2), .val (.int r3), .val (.int r4), .val (.int r5), .val (.int r6), .val (.int r7), .val (.int r8), .val (.int r9), .val (.int r10), .val (.ref a11), .val (.ref c22), .val (.int r7), .unset, .unset, .unset] [])) _
      refine XS.iload P22.here hx rfl (hb hby at_141) rfl ?_
      show Steps p.tables e below (T22.setTop (mkF m 143 #[.val (.int i1), .val (.int i2), .val (.int i3), .val (.int i4), .val (.int i5), .val (.int s1), .val (.int s2), .val (.int r3), .val (.int r4), .val (.int r5), .val (.int r6), .val (.int r7), .val (.int r8), .val (.int r9), .val (.int r10), .val (.ref a11), .val (.ref c22), .val (.int r7), .unset, .unset, .unset] [(.int r8)])) _
      refine XS.istore P22.here hx rfl (hb hby at_143) rfl (l' := #[.val (.int i1), .val (.int i2), .val (.int i3), .val (.int i4), .val (.int i5), .val (.int s1), .val (.int s2), .val (.int r3), .val (.int r4), .val (.int r5), .val (.int r6), .val (.int r7), .val (.int r8), .val (.int r9), .val (.int r10), .val (.ref a11), .val (.ref c22), .val (.int r7), .val (.int r8), .unset, .unset]) rfl ?_
      show Steps p.tables e below (T22.setTop (mkF m 145 #[.val (.int i1), .val (.int i2), .val (.int i3), .val (.int i4), .val (.int i5), .val (.int s1), .val (.int s2), .val (.int r3), .val (.int r4), .val (.int r5), .val (.int r6), .val (.int r7), .val (.int r8), .val (.int r9), .val (.int r10), .val (.ref a11), .val (.ref c22), .val (.int r7), .val (.int r8), .unset, .unset] [])) _
      refine XS.iload P22.here hx rfl (hb hby at_145) rfl ?_
      show Steps p.tables e below (T22.setTop (mkF m 147 #[.val (.int i1), .val (.int i2), .val (.int i3), .val (.int i4), .val (.int i5), .val (.int s1), .val (.int s2), .val (.int r3), .val (.int r4), .val (.int r5), .val (.int r6), .val (.int r7), .val (.int r8), .val (.int r9), .val (.int r10), .val (.ref a11), .val (.ref c22), .val (.int r7), .val (.int r8), .unset, .unset] [(.int r9)])) _
      refine XS.istore P22.here hx rfl (hb hby at_147) rfl (l' := #[.val (.int i1), .val (.int i2), .val (.int i3), .val (.int i4), .val (.int i5), .val (.int s1), .val (.int s2), .val (.int r3), .val (.int r4), .val (.int r5), .val (.int r6), .val (.int r7), .val (.int r8), .val (.int r9), .val (.int r10), .val (.ref a11), .val (.ref c22), .val (.int r7), .val (.int r8), .val (.int r9), .unset]) rfl ?_
      show Steps p.tables e below (T22.setTop (mkF m 149 #[.val (.int i1), .val (.int i2), .val (.int i3), .val (.int i4), .val (.int i5), .val (.int s1), .val (.int s2), .val (.int r3), .val (.int r4), .val (.int r5), .val (.int r6), .val (.int r7), .val (.int r8), .val (.int r9), .val (.int r10), .val (.ref a11), .val (.ref c22), .val (.int r7), .val (.int r8), .val (.int r9), .unset] [])) _
      refine XS.iload P22.here hx rfl (hb hby at_149) rfl ?_
      show Steps p.tables e below (T22.setTop (mkF m 151 #[.val (.int i1), .val (.int i2), .val (.int i3), .val (.int i4), .val (.int i5), .val (.int s1), .val (.int s2), .val (.int r3), .val (.int r4), .val (.int r5), .val (.int r6), .val (.int r7), .val (.int r8), .val (.int r9), .val (.int r10), .val (.ref a11), .val (.ref c22), .val (.int r7), .val (.int r8), .val (.int r9), .unset] [(.int r10)])) _
      refine XS.istore P22.here hx rfl (hb hby at_151) rfl (l' := #[.val (.int i1), .val (.int i2), .val (.int i3), .val (.int i4), .val (.int i5), .val (.int s1), .val (.int s2), .val (.int r3), .val (.int r4), .val (.int r5), .val (.int r6), .val (.int r7), .val (.int r8), .val (.int r9), .val (.int r10), .val (.ref a11), .val (.ref c22), .val (.int r7), .val (.int r8), .val (.int r9), .val (.int r10)]) rfl ?_
      show Steps p.tables e below (T22.setTop (mkF m 153 #[.val (.int i1), .val (.int i2), .val (.int i3), .val (.int i4), .val (.int i5), .val (.int s1), .val (.int s2), .val (.int r3), .val (.int r4), .val (.int r5), .val (.int r6), .val (.int r7), .val (.int r8), .val (.int r9), .val (.int r10), .val (.ref a11), .val (.ref c22), .val (.int r7), .val (.int r8), .val (.int r9), .val (.int r10)] [])) _
      refine XS.goto P22.here hx rfl (pc0 := 153) (pc' := 172) rfl (hb hby at_153) (by decide) (by decide) ?_
      show Steps p.tables e below (T22.setTop (mkF m 172 #[.val (.int i1), .val (.int i2), .val (.int i3), .val (.int i4), .val (.int i5), .val (.int s1), .val (.int s2), .val (.int r3), .val (.int r4), .val (.int r5), .val (.int r6), .val (.int r7), .val (.int r8), .val (.int r9), .val (.int r10), .val (.ref a11), .val (.ref c22), .val (.int r7), .val (.int r8), .val (.int r9), .val (.int r10)] [])) _
      refine XS.iload P22.here hx rfl (hb hby at_172) rfl ?_
      show Steps p.tables e below (T22.setTop (mkF m 174 #[.val (.int i1), .val (.int i2), .val (.int i3), .val (.int i4), .val (.int i5), .val (.int s1), .val (.int s2), .val (.int r3), .val (.int r4), .val (.int r5), .val (.int r6), .val (.int r7), .val (.int r8), .val (.int r9), .val (.int r10), .val (.ref a11), .val (.ref c22), .val (.int r7), .val (.int r8), .val (.int r9), .val (.int r10)] [(.int r9)])) _
      refine XS.iload P22.here hx rfl (hb hby at_174) rfl ?_
      show Steps p.tables e below (T22.setTop (mkF m 176 #[.val (.int i1), .val (.int i2), .val (.int i3), .val (.int i4), .val (.int i5), .val (.int s1), .val (.int s2), .val (.int r3), .val (.int r4), .val (.int r5), .val (.int r6), .val (.int r7), .val (.int r8), .val (.int r9), .val (.int r10), .val (.ref a11), .val (.ref c22), .val (.int r7), .val (.int r8), .val (.int r9), .val (.int r10)] [(.int r8), (.int r9)])) _
      refine XS.iconst P22.here hx rfl (hb hby at_176) ?_
      show Steps p.tables e below (T22.setTop (mkF m 177 #[.val (.int i1), .val (.int i2), .val (.int i3), .val (.int i4), .val (.int i5), .val (.int s1), .val (.int s2), .val (.int r3), .val (.int r4), .val (.int r5), .val (.int r6), .val (.int r7), .val (.int r8), .val (.int r9), .val (.int r10), .val (.ref a11), .val (.ref c22), .val (.int r7), .val (.int r8), .val (.int r9), .val (.int r10)] [(.int (1 : Int32)), (.int r8), (.int r9)])) _
      refine XS.iadd P22.here hx rfl (hb hby at_177) rfl ?_
      show Steps p.tables e below (T22.setTop (mkF m 178 #[.val (.int i1), .val (.int i2), .val (.int i3), .val (.int i4), .val (.int i5), .val (.int s1), .val (.int s2), .val (.int r3), .val (.int r4), .val (.int r5), .val (.int r6), .val (.int r7), .val (.int r8), .val (.int r9), .val (.int r10), .val (.ref a11), .val (.ref c22), .val (.int r7), .val (.int r8), .val (.int r9), .val (.int r10)] [(.int (r8 + (1 : Int32))), (.int r9)])) _
      exact kQ
    show OwnDone p e below _ (T22.setTop (mkF m 178 #[.val (.int i1), .val (.int i2), .val (.int i3), .val (.int i4), .val (.int i5), .val (.int s1), .val (.int s2), .val (.int r3), .val (.int r4), .val (.int r5), .val (.int r6), .val (.int r7), .val (.int r8), .val (.int r9), .val (.int r10), .val (.ref a11), .val (.ref c22), .val (.int r7), .val (.int r8), .val (.int r9), .val (.int r10)] [(.int (r8 + (1 : Int32))), (.int r9)]))
    refine OwnDone.go (A := (T22.setTop (mkF m 223 #[.val (.int i1), .val (.int i2), .val (.int i3), .val (.int i4), .val (.int i5), .val (.int s1), .val (.int s2), .val (.int r3), .val (.int r4), .val (.int r5), .val (.int r6), .val (.int r7), .val (.int r8), .val (.int r9), .val (.int r10), .val (.ref a11), .val (.ref c22), .val (.int r7), .val (.int r8), .val (.int r9), .val (.int r10)] []))) (fun tQ kQ => XS.icmpYes P22.here hx rfl (pc0 := 178) (pc' := 223) rfl (hb hby at_178) rfl (XT.ii_gt_t hm) (by decide) (by decide) kQ) ?_
    show OwnDone p e below _ (T22.setTop (mkF m 223 #[.val (.int i1), .val (.int i2), .val (.int i3), .val (.int i4), .val (.int i5), .val (.int s1), .val (.int s2), .val (.int r3), .val (.int r4), .val (.int r5), .val (.int r6), .val (.int r7), .val (.int r8), .val (.int r9), .val (.int r10), .val (.ref a11), .val (.ref c22), .val (.int r7), .val (.int r8), .val (.int r9), .val (.int r10)] []))
    refine OwnDone.go (A := (T22.setTop (mkF m 225 #[.val (.int i1), .val (.int i2), .val (.int i3), .val (.int i4), .val (.int i5), .val (.int s1), .val (.int s2), .val (.int r3), .val (.int r4), .val (.int r5), .val (.int r6), .val (.int r7), .val (.int r8), .val (.int r9), .val (.int r10), .val (.ref a11), .val (.ref c22), .val (.int r7), .val (.int r8), .val (.int r9), .val (.int r10)] [(.ref c22)]))) (fun tQ kQ => ?_) ?_
    · refine XS.aload P22.here hx rfl (hb hby at_223) rfl rfl ?_
      show Steps p.tables e below (T22.setTop (mkF m 225 #[.val (.int i1), .val (.int i2), .val (.int i3), .val (.int i4), .val (.int i5), .val (.int s1), .val (.int s2), .val (.int r3), .val (.int r4), .val (.int r5), .val (.int r6), .val (.int r7), .val (.int r8), .val (.int r9), .val (.int r10), .val (.ref a11), .val (.ref c22), .val (.int r7), .val (.int r8), .val (.int r9), .val (.int r10)] [(.ref c22)])) _
      exact kQ
    show OwnDone p e below _ (T22.setTop (mkF m 225 #[.val (.int i1), .val (.int i2), .val (.int i3), .val (.int i4), .val (.int i5), .val (.int s1), .val (.int s2), .val (.int r3), .val (.int r4), .val (.int r5), .val (.int r6), .val (.int r7), .val (.int r8), .val (.int r9), .val (.int r10), .val (.ref a11), .val (.ref c22), .val (.int r7), .val (.int r8), .val (.int r9), .val (.int r10)] [(.ref c22)]))
    refine own_callV (y := (⟨"com/example/bounded_array/boundedarray/regex/CodePointSet", "ranges", "()I"⟩ : MethodName)) (z := (⟨"com/example/bounded_array/boundedarray/regex/CodePointSet", "ranges", "()I"⟩ : MethodName)) (CC := "com/example/bounded_array/boundedarray/regex/CodePointSet") C P22 O22.1 (hw _ (List.mem_of_getElem? (i := 179) rfl)) (hw _ (List.mem_of_getElem? (i := 180) rfl)) (hw _ (List.mem_of_getElem? (i := 182) rfl)) (hw _ (List.mem_of_getElem? (i := 182) rfl)) (hw _ (List.mem_of_getElem? (i := 181) rfl)) (hw _ (List.mem_of_getElem? (i := 145) rfl)) (hw _ (List.mem_of_getElem? (i := 183) rfl)) (by decide) (rmrg4 l Z a0 hw c22 ra22 k22 hs22 lo22 hi22 r7 r8 r9 r10 h22 P22.old O22 Y22) (as := []) (rest := []) pd_20 rfl rfl (wd := 0) rfl rfl at_225 all0 (by decide) (by decide) (by decide) (by decide) (fun T25 h25 v25 P25 K25 hQ25 => ?_)
    obtain ⟨rfl, rfl⟩ := hQ25
    show OwnDone p e below _ (T25.setTop (mkF m 228 #[.val (.int i1), .val (.int i2), .val (.int i3), .val (.int i4), .val (.int i5), .val (.int s1), .val (.int s2), .val (.int r3), .val (.int r4), .val (.int r5), .val (.int r6), .val (.int r7), .val (.int r8), .val (.int r9), .val (.int r10), .val (.ref a11), .val (.ref c22), .val (.int r7), .val (.int r8), .val (.int r9), .val (.int r10)] [(.int (2 : Int32))]))
    refine OwnDone.go (A := (T25.setTop (mkF m 229 #[.val (.int i1), .val (.int i2), .val (.int i3), .val (.int i4), .val (.int i5), .val (.int s1), .val (.int s2), .val (.int r3), .val (.int r4), .val (.int r5), .val (.int r6), .val (.int r7), .val (.int r8), .val (.int r9), .val (.int r10), .val (.ref a11), .val (.ref c22), .val (.int r7), .val (.int r8), .val (.int r9), .val (.int r10)] [(.int (2 : Int32)), (.int (2 : Int32))]))) (fun tQ kQ => ?_) ?_
    · refine XS.iconst P25.here hx rfl (hb hby at_228) ?_
      show Steps p.tables e below (T25.setTop (mkF m 229 #[.val (.int i1), .val (.int i2), .val (.int i3), .val (.int i4), .val (.int i5), .val (.int s1), .val (.int s2), .val (.int r3), .val (.int r4), .val (.int r5), .val (.int r6), .val (.int r7), .val (.int r8), .val (.int r9), .val (.int r10), .val (.ref a11), .val (.ref c22), .val (.int r7), .val (.int r8), .val (.int r9), .val (.int r10)] [(.int (2 : Int32)), (.int (2 : Int32))])) _
      exact kQ
    show OwnDone p e below _ (T25.setTop (mkF m 229 #[.val (.int i1), .val (.int i2), .val (.int i3), .val (.int i4), .val (.int i5), .val (.int s1), .val (.int s2), .val (.int r3), .val (.int r4), .val (.int r5), .val (.int r6), .val (.int r7), .val (.int r8), .val (.int r9), .val (.int r10), .val (.ref a11), .val (.ref c22), .val (.int r7), .val (.int r8), .val (.int r9), .val (.int r10)] [(.int (2 : Int32)), (.int (2 : Int32))]))
    refine OwnDone.go (A := (T25.setTop (mkF m 232 #[.val (.int i1), .val (.int i2), .val (.int i3), .val (.int i4), .val (.int i5), .val (.int s1), .val (.int s2), .val (.int r3), .val (.int r4), .val (.int r5), .val (.int r6), .val (.int r7), .val (.int r8), .val (.int r9), .val (.int r10), .val (.ref a11), .val (.ref c22), .val (.int r7), .val (.int r8), .val (.int r9), .val (.int r10)] []))) (fun tQ kQ => XS.icmpNo P25.here hx rfl (hb hby at_229) rfl (XT.ii_ne_f rfl) kQ) ?_
    show OwnDone p e below _ (T25.setTop (mkF m 232 #[.val (.int i1), .val (.int i2), .val (.int i3), .val (.int i4), .val (.int i5), .val (.int s1), .val (.int s2), .val (.int r3), .val (.int r4), .val (.int r5), .val (.int r6), .val (.int r7), .val (.int r8), .val (.int r9), .val (.int r10), .val (.ref a11), .val (.ref c22), .val (.int r7), .val (.int r8), .val (.int r9), .val (.int r10)] []))
    refine OwnDone.go (A := (T25.setTop (mkF m 235 #[.val (.int i1), .val (.int i2), .val (.int i3), .val (.int i4), .val (.int i5), .val (.int s1), .val (.int s2), .val (.int r3), .val (.int r4), .val (.int r5), .val (.int r6), .val (.int r7), .val (.int r8), .val (.int r9), .val (.int r10), .val (.ref a11), .val (.ref c22), .val (.int r7), .val (.int r8), .val (.int r9), .val (.int r10)] [(.int (0 : Int32)), (.ref c22)]))) (fun tQ kQ => ?_) ?_
    · refine XS.aload P25.here hx rfl (hb hby at_232) rfl rfl ?_
      show Steps p.tables e below (T25.setTop (mkF m 234 #[.val (.int i1), .val (.int i2), .val (.int i3), .val (.int i4), .val (.int i5), .val (.int s1), .val (.int s2), .val (.int r3), .val (.int r4), .val (.int r5), .val (.int r6), .val (.int r7), .val (.int r8), .val (.int r9), .val (.int r10), .val (.ref a11), .val (.ref c22), .val (.int r7), .val (.int r8), .val (.int r9), .val (.int r10)] [(.ref c22)])) _
      refine XS.iconst P25.here hx rfl (hb hby at_234) ?_
      show Steps p.tables e below (T25.setTop (mkF m 235 #[.val (.int i1), .val (.int i2), .val (.int i3), .val (.int i4), .val (.int i5), .val (.int s1), .val (.int s2), .val (.int r3), .val (.int r4), .val (.int r5), .val (.int r6), .val (.int r7), .val (.int r8), .val (.int r9), .val (.int r10), .val (.ref a11), .val (.ref c22), .val (.int r7), .val (.int r8), .val (.int r9), .val (.int r10)] [(.int (0 : Int32)), (.ref c22)])) _
      exact kQ
    show OwnDone p e below _ (T25.setTop (mkF m 235 #[.val (.int i1), .val (.int i2), .val (.int i3), .val (.int i4), .val (.int i5), .val (.int s1), .val (.int s2), .val (.int r3), .val (.int r4), .val (.int r5), .val (.int r6), .val (.int r7), .val (.int r8), .val (.int r9), .val (.int r10), .val (.ref a11), .val (.ref c22), .val (.int r7), .val (.int r8), .val (.int r9), .val (.int r10)] [(.int (0 : Int32)), (.ref c22)]))
    refine own_callV (y := (⟨"com/example/bounded_array/boundedarray/regex/CodePointSet", "first", "(I)I"⟩ : MethodName)) (z := (⟨"com/example/bounded_array/boundedarray/regex/CodePointSet", "first", "(I)I"⟩ : MethodName)) (CC := "com/example/bounded_array/boundedarray/regex/CodePointSet") C P25 O22.1 (hw _ (List.mem_of_getElem? (i := 184) rfl)) (hw _ (List.mem_of_getElem? (i := 185) rfl)) (hw _ (List.mem_of_getElem? (i := 187) rfl)) (hw _ (List.mem_of_getElem? (i := 187) rfl)) (hw _ (List.mem_of_getElem? (i := 186) rfl)) (hw _ (List.mem_of_getElem? (i := 145) rfl)) (hw _ (List.mem_of_getElem? (i := 188) rfl)) (by decide) (rmfs40 l Z a0 hw c22 ra22 k22 hs22 lo22 hi22 r7 r8 r9 r10 h22 P25.old O22 Y22) (as := [(.int (0 : Int32))]) (rest := []) pd_21 rfl rfl (wd := 0) rfl rfl at_235 all0 (by decide) (by decide) (by decide) (by decide) (fun T26 h26 v26 P26 K26 hQ26 => ?_)
    obtain ⟨rfl, rfl⟩ := hQ26
    show OwnDone p e below _ (T26.setTop (mkF m 238 #[.val (.int i1), .val (.int i2), .val (.int i3), .val (.int i4), .val (.int i5), .val (.int s1), .val (.int s2), .val (.int r3), .val (.int r4), .val (.int r5), .val (.int r6), .val (.int r7), .val (.int r8), .val (.int r9), .val (.int r10), .val (.ref a11), .val (.ref c22), .val (.int r7), .val (.int r8), .val (.int r9), .val (.int r10)] [(.int r7)]))
    refine OwnDone.go (A := (T26.setTop (mkF m 240 #[.val (.int i1), .val (.int i2), .val (.int i3), .val (.int i4), .val (.int i5), .val (.int s1), .val (.int s2), .val (.int r3), .val (.int r4), .val (.int r5), .val (.int r6), .val (.int r7), .val (.int r8), .val (.int r9), .val (.int r10), .val (.ref a11), .val (.ref c22), .val (.int r7), .val (.int r8), .val (.int r9), .val (.int r10)] [(.int r7), (.int r7)]))) (fun tQ kQ => ?_) ?_
    · refine XS.iload P26.here hx rfl (hb hby at_238) rfl ?_
      show Steps p.tables e below (T26.setTop (mkF m 240 #[.val (.int i1), .val (.int i2), .val (.int i3), .val (.int i4), .val (.int i5), .val (.int s1), .val (.int s2), .val (.int r3), .val (.int r4), .val (.int r5), .val (.int r6), .val (.int r7), .val (.int r8), .val (.int r9), .val (.int r10), .val (.ref a11), .val (.ref c22), .val (.int r7), .val (.int r8), .val (.int r9), .val (.int r10)] [(.int r7), (.int r7)])) _
      exact kQ
    show OwnDone p e below _ (T26.setTop (mkF m 240 #[.val (.int i1), .val (.int i2), .val (.int i3), .val (.int i4), .val (.int i5), .val (.int s1), .val (.int s2), .val (.int r3), .val (.int r4), .val (.int r5), .val (.int r6), .val (.int r7), .val (.int r8), .val (.int r9), .val (.int r10), .val (.ref a11), .val (.ref c22), .val (.int r7), .val (.int r8), .val (.int r9), .val (.int r10)] [(.int r7), (.int r7)]))
    refine OwnDone.go (A := (T26.setTop (mkF m 243 #[.val (.int i1), .val (.int i2), .val (.int i3), .val (.int i4), .val (.int i5), .val (.int s1), .val (.int s2), .val (.int r3), .val (.int r4), .val (.int r5), .val (.int r6), .val (.int r7), .val (.int r8), .val (.int r9), .val (.int r10), .val (.ref a11), .val (.ref c22), .val (.int r7), .val (.int r8), .val (.int r9), .val (.int r10)] []))) (fun tQ kQ => XS.icmpNo P26.here hx rfl (hb hby at_240) rfl (XT.ii_ne_f rfl) kQ) ?_
    show OwnDone p e below _ (T26.setTop (mkF m 243 #[.val (.int i1), .val (.int i2), .val (.int i3), .val (.int i4), .val (.int i5), .val (.int s1), .val (.int s2), .val (.int r3), .val (.int r4), .val (.int r5), .val (.int r6), .val (.int r7), .val (.int r8), .val (.int r9), .val (.int r10), .val (.ref a11), .val (.ref c22), .val (.int r7), .val (.int r8), .val (.int r9), .val (.int r10)] []))
    refine OwnDone.go (A := (T26.setTop (mkF m 246 #[.val (.int i1), .val (.int i2), .val (.int i3), .val (.int i4), .val (.int i5), .val (.int s1), .val (.int s2), .val (.int r3), .val (.int r4), .val (.int r5), .val (.int r6), .val (.int r7), .val (.int r8), .val (.int r9), .val (.int r10), .val (.ref a11), .val (.ref c22), .val (.int r7), .val (.int r8), .val (.int r9), .val (.int r10)] [(.int (0 : Int32)), (.ref c22)]))) (fun tQ kQ => ?_) ?_
    · refine XS.aload P26.here hx rfl (hb hby at_243) rfl rfl ?_
      show Steps p.tables e below (T26.setTop (mkF m 245 #[.val (.int i1), .val (.int i2), .val (.int i3), .val (.int i4), .val (.int i5), .val (.int s1), .val (.int s2), .val (.int r3), .val (.int r4), .val (.int r5), .val (.int r6), .val (.int r7), .val (.int r8), .val (.int r9), .val (.int r10), .val (.ref a11), .val (.ref c22), .val (.int r7), .val (.int r8), .val (.int r9), .val (.int r10)] [(.ref c22)])) _
      refine XS.iconst P26.here hx rfl (hb hby at_245) ?_
      show Steps p.tables e below (T26.setTop (mkF m 246 #[.val (.int i1), .val (.int i2), .val (.int i3), .val (.int i4), .val (.int i5), .val (.int s1), .val (.int s2), .val (.int r3), .val (.int r4), .val (.int r5), .val (.int r6), .val (.int r7), .val (.int r8), .val (.int r9), .val (.int r10), .val (.ref a11), .val (.ref c22), .val (.int r7), .val (.int r8), .val (.int r9), .val (.int r10)] [(.int (0 : Int32)), (.ref c22)])) _
      exact kQ
    show OwnDone p e below _ (T26.setTop (mkF m 246 #[.val (.int i1), .val (.int i2), .val (.int i3), .val (.int i4), .val (.int i5), .val (.int s1), .val (.int s2), .val (.int r3), .val (.int r4), .val (.int r5), .val (.int r6), .val (.int r7), .val (.int r8), .val (.int r9), .val (.int r10), .val (.ref a11), .val (.ref c22), .val (.int r7), .val (.int r8), .val (.int r9), .val (.int r10)] [(.int (0 : Int32)), (.ref c22)]))
    refine own_callV (y := (⟨"com/example/bounded_array/boundedarray/regex/CodePointSet", "last", "(I)I"⟩ : MethodName)) (z := (⟨"com/example/bounded_array/boundedarray/regex/CodePointSet", "last", "(I)I"⟩ : MethodName)) (CC := "com/example/bounded_array/boundedarray/regex/CodePointSet") C P26 O22.1 (hw _ (List.mem_of_getElem? (i := 189) rfl)) (hw _ (List.mem_of_getElem? (i := 190) rfl)) (hw _ (List.mem_of_getElem? (i := 192) rfl)) (hw _ (List.mem_of_getElem? (i := 192) rfl)) (hw _ (List.mem_of_getElem? (i := 191) rfl)) (hw _ (List.mem_of_getElem? (i := 145) rfl)) (hw _ (List.mem_of_getElem? (i := 193) rfl)) (by decide) (rmls40 l Z a0 hw c22 ra22 k22 hs22 lo22 hi22 r7 r8 r9 r10 h22 P26.old O22 Y22) (as := [(.int (0 : Int32))]) (rest := []) pd_21 rfl rfl (wd := 0) rfl rfl at_246 all0 (by decide) (by decide) (by decide) (by decide) (fun T27 h27 v27 P27 K27 hQ27 => ?_)
    obtain ⟨rfl, rfl⟩ := hQ27
    show OwnDone p e below _ (T27.setTop (mkF m 249 #[.val (.int i1), .val (.int i2), .val (.int i3), .val (.int i4), .val (.int i5), .val (.int s1), .val (.int s2), .val (.int r3), .val (.int r4), .val (.int r5), .val (.int r6), .val (.int r7), .val (.int r8), .val (.int r9), .val (.int r10), .val (.ref a11), .val (.ref c22), .val (.int r7), .val (.int r8), .val (.int r9), .val (.int r10)] [(.int r8)]))
    refine OwnDone.go (A := (T27.setTop (mkF m 251 #[.val (.int i1), .val (.int i2), .val (.int i3), .val (.int i4), .val (.int i5), .val (.int s1), .val (.int s2), .val (.int r3), .val (.int r4), .val (.int r5), .val (.int r6), .val (.int r7), .val (.int r8), .val (.int r9), .val (.int r10), .val (.ref a11), .val (.ref c22), .val (.int r7), .val (.int r8), .val (.int r9), .val (.int r10)] [(.int r8), (.int r8)]))) (fun tQ kQ => ?_) ?_
    · refine XS.iload P27.here hx rfl (hb hby at_249) rfl ?_
      show Steps p.tables e below (T27.setTop (mkF m 251 #[.val (.int i1), .val (.int i2), .val (.int i3), .val (.int i4), .val (.int i5), .val (.int s1), .val (.int s2), .val (.int r3), .val (.int r4), .val (.int r5), .val (.int r6), .val (.int r7), .val (.int r8), .val (.int r9), .val (.int r10), .val (.ref a11), .val (.ref c22), .val (.int r7), .val (.int r8), .val (.int r9), .val (.int r10)] [(.int r8), (.int r8)])) _
      exact kQ
    show OwnDone p e below _ (T27.setTop (mkF m 251 #[.val (.int i1), .val (.int i2), .val (.int i3), .val (.int i4), .val (.int i5), .val (.int s1), .val (.int s2), .val (.int r3), .val (.int r4), .val (.int r5), .val (.int r6), .val (.int r7), .val (.int r8), .val (.int r9), .val (.int r10), .val (.ref a11), .val (.ref c22), .val (.int r7), .val (.int r8), .val (.int r9), .val (.int r10)] [(.int r8), (.int r8)]))
    refine OwnDone.go (A := (T27.setTop (mkF m 254 #[.val (.int i1), .val (.int i2), .val (.int i3), .val (.int i4), .val (.int i5), .val (.int s1), .val (.int s2), .val (.int r3), .val (.int r4), .val (.int r5), .val (.int r6), .val (.int r7), .val (.int r8), .val (.int r9), .val (.int r10), .val (.ref a11), .val (.ref c22), .val (.int r7), .val (.int r8), .val (.int r9), .val (.int r10)] []))) (fun tQ kQ => XS.icmpNo P27.here hx rfl (hb hby at_251) rfl (XT.ii_ne_f rfl) kQ) ?_
    show OwnDone p e below _ (T27.setTop (mkF m 254 #[.val (.int i1), .val (.int i2), .val (.int i3), .val (.int i4), .val (.int i5), .val (.int s1), .val (.int s2), .val (.int r3), .val (.int r4), .val (.int r5), .val (.int r6), .val (.int r7), .val (.int r8), .val (.int r9), .val (.int r10), .val (.ref a11), .val (.ref c22), .val (.int r7), .val (.int r8), .val (.int r9), .val (.int r10)] []))
    refine OwnDone.go (A := (T27.setTop (mkF m 257 #[.val (.int i1), .val (.int i2), .val (.int i3), .val (.int i4), .val (.int i5), .val (.int s1), .val (.int s2), .val (.int r3), .val (.int r4), .val (.int r5), .val (.int r6), .val (.int r7), .val (.int r8), .val (.int r9), .val (.int r10), .val (.ref a11), .val (.ref c22), .val (.int r7), .val (.int r8), .val (.int r9), .val (.int r10)] [(.int (1 : Int32)), (.ref c22)]))) (fun tQ kQ => ?_) ?_
    · refine XS.aload P27.here hx rfl (hb hby at_254) rfl rfl ?_
      show Steps p.tables e below (T27.setTop (mkF m 256 #[.val (.int i1), .val (.int i2), .val (.int i3), .val (.int i4), .val (.int i5), .val (.int s1), .val (.int s2), .val (.int r3), .val (.int r4), .val (.int r5), .val (.int r6), .val (.int r7), .val (.int r8), .val (.int r9), .val (.int r10), .val (.ref a11), .val (.ref c22), .val (.int r7), .val (.int r8), .val (.int r9), .val (.int r10)] [(.ref c22)])) _
      refine XS.iconst P27.here hx rfl (hb hby at_256) ?_
      show Steps p.tables e below (T27.setTop (mkF m 257 #[.val (.int i1), .val (.int i2), .val (.int i3), .val (.int i4), .val (.int i5), .val (.int s1), .val (.int s2), .val (.int r3), .val (.int r4), .val (.int r5), .val (.int r6), .val (.int r7), .val (.int r8), .val (.int r9), .val (.int r10), .val (.ref a11), .val (.ref c22), .val (.int r7), .val (.int r8), .val (.int r9), .val (.int r10)] [(.int (1 : Int32)), (.ref c22)])) _
      exact kQ
    show OwnDone p e below _ (T27.setTop (mkF m 257 #[.val (.int i1), .val (.int i2), .val (.int i3), .val (.int i4), .val (.int i5), .val (.int s1), .val (.int s2), .val (.int r3), .val (.int r4), .val (.int r5), .val (.int r6), .val (.int r7), .val (.int r8), .val (.int r9), .val (.int r10), .val (.ref a11), .val (.ref c22), .val (.int r7), .val (.int r8), .val (.int r9), .val (.int r10)] [(.int (1 : Int32)), (.ref c22)]))
    refine own_callV (y := (⟨"com/example/bounded_array/boundedarray/regex/CodePointSet", "first", "(I)I"⟩ : MethodName)) (z := (⟨"com/example/bounded_array/boundedarray/regex/CodePointSet", "first", "(I)I"⟩ : MethodName)) (CC := "com/example/bounded_array/boundedarray/regex/CodePointSet") C P27 O22.1 (hw _ (List.mem_of_getElem? (i := 184) rfl)) (hw _ (List.mem_of_getElem? (i := 185) rfl)) (hw _ (List.mem_of_getElem? (i := 187) rfl)) (hw _ (List.mem_of_getElem? (i := 187) rfl)) (hw _ (List.mem_of_getElem? (i := 186) rfl)) (hw _ (List.mem_of_getElem? (i := 145) rfl)) (hw _ (List.mem_of_getElem? (i := 188) rfl)) (by decide) (rmfs41 l Z a0 hw c22 ra22 k22 hs22 lo22 hi22 r7 r8 r9 r10 h22 P27.old O22 Y22) (as := [(.int (1 : Int32))]) (rest := []) pd_21 rfl rfl (wd := 0) rfl rfl at_257 all0 (by decide) (by decide) (by decide) (by decide) (fun T28 h28 v28 P28 K28 hQ28 => ?_)
    obtain ⟨rfl, rfl⟩ := hQ28
    show OwnDone p e below _ (T28.setTop (mkF m 260 #[.val (.int i1), .val (.int i2), .val (.int i3), .val (.int i4), .val (.int i5), .val (.int s1), .val (.int s2), .val (.int r3), .val (.int r4), .val (.int r5), .val (.int r6), .val (.int r7), .val (.int r8), .val (.int r9), .val (.int r10), .val (.ref a11), .val (.ref c22), .val (.int r7), .val (.int r8), .val (.int r9), .val (.int r10)] [(.int r9)]))
    refine OwnDone.go (A := (T28.setTop (mkF m 262 #[.val (.int i1), .val (.int i2), .val (.int i3), .val (.int i4), .val (.int i5), .val (.int s1), .val (.int s2), .val (.int r3), .val (.int r4), .val (.int r5), .val (.int r6), .val (.int r7), .val (.int r8), .val (.int r9), .val (.int r10), .val (.ref a11), .val (.ref c22), .val (.int r7), .val (.int r8), .val (.int r9), .val (.int r10)] [(.int r9), (.int r9)]))) (fun tQ kQ => ?_) ?_
    · refine XS.iload P28.here hx rfl (hb hby at_260) rfl ?_
      show Steps p.tables e below (T28.setTop (mkF m 262 #[.val (.int i1), .val (.int i2), .val (.int i3), .val (.int i4), .val (.int i5), .val (.int s1), .val (.int s2), .val (.int r3), .val (.int r4), .val (.int r5), .val (.int r6), .val (.int r7), .val (.int r8), .val (.int r9), .val (.int r10), .val (.ref a11), .val (.ref c22), .val (.int r7), .val (.int r8), .val (.int r9), .val (.int r10)] [(.int r9), (.int r9)])) _
      exact kQ
    show OwnDone p e below _ (T28.setTop (mkF m 262 #[.val (.int i1), .val (.int i2), .val (.int i3), .val (.int i4), .val (.int i5), .val (.int s1), .val (.int s2), .val (.int r3), .val (.int r4), .val (.int r5), .val (.int r6), .val (.int r7), .val (.int r8), .val (.int r9), .val (.int r10), .val (.ref a11), .val (.ref c22), .val (.int r7), .val (.int r8), .val (.int r9), .val (.int r10)] [(.int r9), (.int r9)]))
    refine OwnDone.go (A := (T28.setTop (mkF m 265 #[.val (.int i1), .val (.int i2), .val (.int i3), .val (.int i4), .val (.int i5), .val (.int s1), .val (.int s2), .val (.int r3), .val (.int r4), .val (.int r5), .val (.int r6), .val (.int r7), .val (.int r8), .val (.int r9), .val (.int r10), .val (.ref a11), .val (.ref c22), .val (.int r7), .val (.int r8), .val (.int r9), .val (.int r10)] []))) (fun tQ kQ => XS.icmpNo P28.here hx rfl (hb hby at_262) rfl (XT.ii_ne_f rfl) kQ) ?_
    show OwnDone p e below _ (T28.setTop (mkF m 265 #[.val (.int i1), .val (.int i2), .val (.int i3), .val (.int i4), .val (.int i5), .val (.int s1), .val (.int s2), .val (.int r3), .val (.int r4), .val (.int r5), .val (.int r6), .val (.int r7), .val (.int r8), .val (.int r9), .val (.int r10), .val (.ref a11), .val (.ref c22), .val (.int r7), .val (.int r8), .val (.int r9), .val (.int r10)] []))
    refine OwnDone.go (A := (T28.setTop (mkF m 268 #[.val (.int i1), .val (.int i2), .val (.int i3), .val (.int i4), .val (.int i5), .val (.int s1), .val (.int s2), .val (.int r3), .val (.int r4), .val (.int r5), .val (.int r6), .val (.int r7), .val (.int r8), .val (.int r9), .val (.int r10), .val (.ref a11), .val (.ref c22), .val (.int r7), .val (.int r8), .val (.int r9), .val (.int r10)] [(.int (1 : Int32)), (.ref c22)]))) (fun tQ kQ => ?_) ?_
    · refine XS.aload P28.here hx rfl (hb hby at_265) rfl rfl ?_
      show Steps p.tables e below (T28.setTop (mkF m 267 #[.val (.int i1), .val (.int i2), .val (.int i3), .val (.int i4), .val (.int i5), .val (.int s1), .val (.int s2), .val (.int r3), .val (.int r4), .val (.int r5), .val (.int r6), .val (.int r7), .val (.int r8), .val (.int r9), .val (.int r10), .val (.ref a11), .val (.ref c22), .val (.int r7), .val (.int r8), .val (.int r9), .val (.int r10)] [(.ref c22)])) _
      refine XS.iconst P28.here hx rfl (hb hby at_267) ?_
      show Steps p.tables e below (T28.setTop (mkF m 268 #[.val (.int i1), .val (.int i2), .val (.int i3), .val (.int i4), .val (.int i5), .val (.int s1), .val (.int s2), .val (.int r3), .val (.int r4), .val (.int r5), .val (.int r6), .val (.int r7), .val (.int r8), .val (.int r9), .val (.int r10), .val (.ref a11), .val (.ref c22), .val (.int r7), .val (.int r8), .val (.int r9), .val (.int r10)] [(.int (1 : Int32)), (.ref c22)])) _
      exact kQ
    show OwnDone p e below _ (T28.setTop (mkF m 268 #[.val (.int i1), .val (.int i2), .val (.int i3), .val (.int i4), .val (.int i5), .val (.int s1), .val (.int s2), .val (.int r3), .val (.int r4), .val (.int r5), .val (.int r6), .val (.int r7), .val (.int r8), .val (.int r9), .val (.int r10), .val (.ref a11), .val (.ref c22), .val (.int r7), .val (.int r8), .val (.int r9), .val (.int r10)] [(.int (1 : Int32)), (.ref c22)]))
    refine own_callV (y := (⟨"com/example/bounded_array/boundedarray/regex/CodePointSet", "last", "(I)I"⟩ : MethodName)) (z := (⟨"com/example/bounded_array/boundedarray/regex/CodePointSet", "last", "(I)I"⟩ : MethodName)) (CC := "com/example/bounded_array/boundedarray/regex/CodePointSet") C P28 O22.1 (hw _ (List.mem_of_getElem? (i := 189) rfl)) (hw _ (List.mem_of_getElem? (i := 190) rfl)) (hw _ (List.mem_of_getElem? (i := 192) rfl)) (hw _ (List.mem_of_getElem? (i := 192) rfl)) (hw _ (List.mem_of_getElem? (i := 191) rfl)) (hw _ (List.mem_of_getElem? (i := 145) rfl)) (hw _ (List.mem_of_getElem? (i := 193) rfl)) (by decide) (rmls41 l Z a0 hw c22 ra22 k22 hs22 lo22 hi22 r7 r8 r9 r10 h22 P28.old O22 Y22) (as := [(.int (1 : Int32))]) (rest := []) pd_21 rfl rfl (wd := 0) rfl rfl at_268 all0 (by decide) (by decide) (by decide) (by decide) (fun T29 h29 v29 P29 K29 hQ29 => ?_)
    obtain ⟨rfl, rfl⟩ := hQ29
    show OwnDone p e below _ (T29.setTop (mkF m 271 #[.val (.int i1), .val (.int i2), .val (.int i3), .val (.int i4), .val (.int i5), .val (.int s1), .val (.int s2), .val (.int r3), .val (.int r4), .val (.int r5), .val (.int r6), .val (.int r7), .val (.int r8), .val (.int r9), .val (.int r10), .val (.ref a11), .val (.ref c22), .val (.int r7), .val (.int r8), .val (.int r9), .val (.int r10)] [(.int r10)]))
    refine OwnDone.go (A := (T29.setTop (mkF m 273 #[.val (.int i1), .val (.int i2), .val (.int i3), .val (.int i4), .val (.int i5), .val (.int s1), .val (.int s2), .val (.int r3), .val (.int r4), .val (.int r5), .val (.int r6), .val (.int r7), .val (.int r8), .val (.int r9), .val (.int r10), .val (.ref a11), .val (.ref c22), .val (.int r7), .val (.int r8), .val (.int r9), .val (.int r10)] [(.int r10), (.int r10)]))) (fun tQ kQ => ?_) ?_
    · refine XS.iload P29.here hx rfl (hb hby at_271) rfl ?_
      show Steps p.tables e below (T29.setTop (mkF m 273 #[.val (.int i1), .val (.int i2), .val (.int i3), .val (.int i4), .val (.int i5), .val (.int s1), .val (.int s2), .val (.int r3), .val (.int r4), .val (.int r5), .val (.int r6), .val (.int r7), .val (.int r8), .val (.int r9), .val (.int r10), .val (.ref a11), .val (.ref c22), .val (.int r7), .val (.int r8), .val (.int r9), .val (.int r10)] [(.int r10), (.int r10)])) _
      exact kQ
    show OwnDone p e below _ (T29.setTop (mkF m 273 #[.val (.int i1), .val (.int i2), .val (.int i3), .val (.int i4), .val (.int i5), .val (.int s1), .val (.int s2), .val (.int r3), .val (.int r4), .val (.int r5), .val (.int r6), .val (.int r7), .val (.int r8), .val (.int r9), .val (.int r10), .val (.ref a11), .val (.ref c22), .val (.int r7), .val (.int r8), .val (.int r9), .val (.int r10)] [(.int r10), (.int r10)]))
    refine OwnDone.go (A := (T29.setTop (mkF m 276 #[.val (.int i1), .val (.int i2), .val (.int i3), .val (.int i4), .val (.int i5), .val (.int s1), .val (.int s2), .val (.int r3), .val (.int r4), .val (.int r5), .val (.int r6), .val (.int r7), .val (.int r8), .val (.int r9), .val (.int r10), .val (.ref a11), .val (.ref c22), .val (.int r7), .val (.int r8), .val (.int r9), .val (.int r10)] []))) (fun tQ kQ => XS.icmpNo P29.here hx rfl (hb hby at_273) rfl (XT.ii_ne_f rfl) kQ) ?_
    show OwnDone p e below _ (T29.setTop (mkF m 276 #[.val (.int i1), .val (.int i2), .val (.int i3), .val (.int i4), .val (.int i5), .val (.int s1), .val (.int s2), .val (.int r3), .val (.int r4), .val (.int r5), .val (.int r6), .val (.int r7), .val (.int r8), .val (.int r9), .val (.int r10), .val (.ref a11), .val (.ref c22), .val (.int r7), .val (.int r8), .val (.int r9), .val (.int r10)] []))
    refine OwnDone.go (A := (T29.setTop (mkF m 281 #[.val (.int i1), .val (.int i2), .val (.int i3), .val (.int i4), .val (.int i5), .val (.int s1), .val (.int s2), .val (.int r3), .val (.int r4), .val (.int r5), .val (.int r6), .val (.int r7), .val (.int r8), .val (.int r9), .val (.int r10), .val (.ref a11), .val (.ref c22), .val (.int r7), .val (.int r8), .val (.int r9), .val (.int r10)] [(.int (1 : Int32))]))) (fun tQ kQ => ?_) ?_
    · refine XS.iconst P29.here hx rfl (hb hby at_276) ?_
      show Steps p.tables e below (T29.setTop (mkF m 277 #[.val (.int i1), .val (.int i2), .val (.int i3), .val (.int i4), .val (.int i5), .val (.int s1), .val (.int s2), .val (.int r3), .val (.int r4), .val (.int r5), .val (.int r6), .val (.int r7), .val (.int r8), .val (.int r9), .val (.int r10), .val (.ref a11), .val (.ref c22), .val (.int r7), .val (.int r8), .val (.int r9), .val (.int r10)] [(.int (1 : Int32))])) _
      refine XS.goto P29.here hx rfl (pc0 := 277) (pc' := 281) rfl (hb hby at_277) (by decide) (by decide) ?_
      show Steps p.tables e below (T29.setTop (mkF m 281 #[.val (.int i1), .val (.int i2), .val (.int i3), .val (.int i4), .val (.int i5), .val (.int s1), .val (.int s2), .val (.int r3), .val (.int r4), .val (.int r5), .val (.int r6), .val (.int r7), .val (.int r8), .val (.int r9), .val (.int r10), .val (.ref a11), .val (.ref c22), .val (.int r7), .val (.int r8), .val (.int r9), .val (.int r10)] [(.int (1 : Int32))])) _
      exact kQ
    show OwnDone p e below _ (T29.setTop (mkF m 281 #[.val (.int i1), .val (.int i2), .val (.int i3), .val (.int i4), .val (.int i5), .val (.int s1), .val (.int s2), .val (.int r3), .val (.int r4), .val (.int r5), .val (.int r6), .val (.int r7), .val (.int r8), .val (.int r9), .val (.int r10), .val (.ref a11), .val (.ref c22), .val (.int r7), .val (.int r8), .val (.int r9), .val (.int r10)] [(.int (1 : Int32))]))
    refine own_retN C P29 (by simp) (z' := (1 : Int32)) (by decide) at_281 (by decide) (by decide) rfl
  · show OwnDone p e below _ (T14.setTop (mkF m 125 #[.val (.int i1), .val (.int i2), .val (.int i3), .val (.int i4), .val (.int i5), .val (.int s1), .val (.int s2), .val (.int r3), .val (.int r4), .val (.int r5), .val (.int r6), .val (.int r7), .val (.int r8), .val (.int r9), .val (.int r10), .val (.ref a11), .unset, .unset, .unset, .unset, .unset] [(.ref a11)]))
    refine own_callV (y := (⟨"com/example/bounded_array/boundedarray/regex/CodePointSet$Builder", "build", "()Lcom/example/bounded_array/boundedarray/regex/CodePointSet;"⟩ : MethodName)) (z := (⟨"com/example/bounded_array/boundedarray/regex/CodePointSet$Builder", "build", "()Lcom/example/bounded_array/boundedarray/regex/CodePointSet;"⟩ : MethodName)) (CC := "com/example/bounded_array/boundedarray/regex/CodePointSet$Builder") C P14 O14.1 (hw _ (List.mem_of_getElem? (i := 122) rfl)) (hw _ (List.mem_of_getElem? (i := 123) rfl)) (hw _ (List.mem_of_getElem? (i := 125) rfl)) (hw _ (List.mem_of_getElem? (i := 125) rfl)) (hw _ (List.mem_of_getElem? (i := 124) rfl)) (hw _ (List.mem_of_getElem? (i := 15) rfl)) (hw _ (List.mem_of_getElem? (i := 126) rfl)) (by decide) (rmbm l Z a0 hw a11 b12 s12 k12 r7 r8 r9 r10 r9 r10 r7 r8 h14 P14.old O14 Y14 nb12 hp hs hm) (as := []) (rest := []) pd_19 rfl rfl (wd := 0) rfl rfl at_125 all0 (by decide) (by decide) (by decide) (by decide) (fun T30 h30 v30 P30 K30 hQ30 => ?_)
    obtain ⟨c30, ra30, k30, hs30, lo30, hi30, r30, rfl, O30, Y30, mx30⟩ := hQ30
    have O31_a11 := O14.keep K30 nin0
    have Y32_b12 := Y14.keep K30 nin0
    show OwnDone p e below _ (T30.setTop (mkF m 128 #[.val (.int i1), .val (.int i2), .val (.int i3), .val (.int i4), .val (.int i5), .val (.int s1), .val (.int s2), .val (.int r3), .val (.int r4), .val (.int r5), .val (.int r6), .val (.int r7), .val (.int r8), .val (.int r9), .val (.int r10), .val (.ref a11), .unset, .unset, .unset, .unset, .unset] [(.ref c30)]))
    refine OwnDone.go (A := (T30.setTop (mkF m 134 #[.val (.int i1), .val (.int i2), .val (.int i3), .val (.int i4), .val (.int i5), .val (.int s1), .val (.int s2), .val (.int r3), .val (.int r4), .val (.int r5), .val (.int r6), .val (.int r7), .val (.int r8), .val (.int r9), .val (.int r10), .val (.ref a11), .val (.ref c30), .unset, .unset, .unset, .unset] [(.int r9), (.int r7)]))) (fun tQ kQ => ?_) ?_
    · refine XS.astore P30.here hx rfl (hb hby at_128) rfl rfl (l' := #[.val (.int i1), .val (.int i2), .val (.int i3), .val (.int i4), .val (.int i5), .val (.int s1), .val (.int s2), .val (.int r3), .val (.int r4), .val (.int r5), .val (.int r6), .val (.int r7), .val (.int r8), .val (.int r9), .val (.int r10), .val (.ref a11), .val (.ref c30), .unset, .unset, .unset, .unset]) rfl ?_
      show Steps p.tables e below (T30.setTop (mkF m 130 #[.val (.int i1), .val (.int i2), .val (.int i3), .val (.int i4), .val (.int i5), .val (.int s1), .val (.int s2), .val (.int r3), .val (.int r4), .val (.int r5), .val (.int r6), .val (.int r7), .val (.int r8), .val (.int r9), .val (.int r10), .val (.ref a11), .val (.ref c30), .unset, .unset, .unset, .unset] [])) _
      refine XS.iload P30.here hx rfl (hb hby at_130) rfl ?_
      show Steps p.tables e below (T30.setTop (mkF m 132 #[.val (.int i1), .val (.int i2), .val (.int i3), .val (.int i4), .val (.int i5), .val (.int s1), .val (.int s2), .val (.int r3), .val (.int r4), .val (.int r5), .val (.int r6), .val (.int r7), .val (.int r8), .val (.int r9), .val (.int r10), .val (.ref a11), .val (.ref c30), .unset, .unset, .unset, .unset] [(.int r7)])) _
      refine XS.iload P30.here hx rfl (hb hby at_132) rfl ?_
      show Steps p.tables e below (T30.setTop (mkF m 134 #[.val (.int i1), .val (.int i2), .val (.int i3), .val (.int i4), .val (.int i5), .val (.int s1), .val (.int s2), .val (.int r3), .val (.int r4), .val (.int r5), .val (.int r6), .val (.int r7), .val (.int r8), .val (.int r9), .val (.int r10), .val (.ref a11), .val (.ref c30), .unset, .unset, .unset, .unset] [(.int r9), (.int r7)])) _
      exact kQ
    show OwnDone p e below _ (T30.setTop (mkF m 134 #[.val (.int i1), .val (.int i2), .val (.int i3), .val (.int i4), .val (.int i5), .val (.int s1), .val (.int s2), .val (.int r3), .val (.int r4), .val (.int r5), .val (.int r6), .val (.int r7), .val (.int r8), .val (.int r9), .val (.int r10), .val (.ref a11), .val (.ref c30), .unset, .unset, .unset, .unset] [(.int r9), (.int r7)]))
    refine OwnDone.go (A := (T30.setTop (mkF m 156 #[.val (.int i1), .val (.int i2), .val (.int i3), .val (.int i4), .val (.int i5), .val (.int s1), .val (.int s2), .val (.int r3), .val (.int r4), .val (.int r5), .val (.int r6), .val (.int r7), .val (.int r8), .val (.int r9), .val (.int r10), .val (.ref a11), .val (.ref c30), .unset, .unset, .unset, .unset] []))) (fun tQ kQ => XS.icmpYes P30.here hx rfl (pc0 := 134) (pc' := 156) rfl (hb hby at_134) rfl (XT.ii_gt_t hA) (by decide) (by decide) kQ) ?_
    show OwnDone p e below _ (T30.setTop (mkF m 156 #[.val (.int i1), .val (.int i2), .val (.int i3), .val (.int i4), .val (.int i5), .val (.int s1), .val (.int s2), .val (.int r3), .val (.int r4), .val (.int r5), .val (.int r6), .val (.int r7), .val (.int r8), .val (.int r9), .val (.int r10), .val (.ref a11), .val (.ref c30), .unset, .unset, .unset, .unset] []))
    refine OwnDone.go (A := (T30.setTop (mkF m 178 #[.val (.int i1), .val (.int i2), .val (.int i3), .val (.int i4), .val (.int i5), .val (.int s1), .val (.int s2), .val (.int r3), .val (.int r4), .val (.int r5), .val (.int r6), .val (.int r7), .val (.int r8), .val (.int r9), .val (.int r10), .val (.ref a11), .val (.ref c30), .val (.int r9), .val (.int r10), .val (.int r7), .val (.int r8)] [(.int (r10 + (1 : Int32))), (.int r7)]))) (fun tQ kQ => ?_) ?_
    · refine XS.iload P30.here hx rfl (hb hby at_156) rfl ?_
      show Steps p.tables e below (T30.setTop (mkF m 158 #[.val (.int i1), .val (.int i2), .val (.int i3), .val (.int i4), .val (.int i5), .val (.int s1), .val (.int s2), .val (.int r3), .val (.int r4), .val (.int r5), .val (.int r6), .val (.int r7), .val (.int r8), .val (.int r9), .val (.int r10), .val (.ref a11), .val (.ref c30), .unset, .unset, .unset, .unset] [(.int r9)])) _
      refine XS.istore P30.here hx rfl (hb hby at_158) rfl (l' := #[.val (.int i1), .val (.int i2), .val (.int i3), .val (.int i4), .val (.int i5), .val (.int s1), .val (.int s2), .val (.int r3), .val (.int r4), .val (.int r5), .val (.int r6), .val (.int r7), .val (.int r8), .val (.int r9), .val (.int r10), .val (.ref a11), .val (.ref c30), .val (.int r9), .unset, .unset, .unset]) rfl ?_
      show Steps p.tables e below (T30.setTop (mkF m 160 #[.val (.int i1), .val (.int i2), .val (.int i3), .val (.int i4), .val (.int i5), .val (.int s1), .val (.int s2), .val (.int r3), .val (.int r4), .val (.int r5), .val (.int r6), .val (.int r7), .val (.int r8), .val (.int r9), .val (.int r10), .val (.ref a11), .val (.ref c30), .val (.int r9), .unset, .unset, .unset] [])) _
      refine XS.iload P30.here hx rfl (hb hby at_160) rfl ?_
      show Steps p.tables e below (T30.setTop (mkF m 162 #[.val (.int i1), .val (.int i2), .val (.int i3), .val (.int i4), .val (.int i5), .val (.int s1), .val (.int s2), .val (.int r3), .val (.int r4), .val (.int r5), .val (.int r6), .val (.int r7), .val (.int r8), .val (.int r9), .val (.int r10), .val (.ref a11), .val (.ref c30), .val (.int r9), .unset, .unset, .unset] [(.int r10)])) _
      refine XS.istore P30.here hx rfl (hb hby at_162) rfl (l' := #[.val (.int i1), .val (.int i2), .val (.int i3), .val (.int i4), .val (.int i5), .val (.int s1), .val (.int s2), .val (.int r3), .val (.int r4), .val (.int r5), .val (.int r6), .val (.int r7), .val (.int r8), .val (.int r9), .val (.int r10), .val (.ref a11), .val (.ref c30), .val (.int r9), .val (.int r10), .unset, .unset]) rfl ?_
      show Steps p.tables e below (T30.setTop (mkF m 164 #[.val (.int i1), .val (.int i2), .val (.int i3), .val (.int i4), .val (.int i5), .val (.int s1), .val (.int s2), .val (.int r3), .val (.int r4), .val (.int r5), .val (.int r6), .val (.int r7), .val (.int r8), .val (.int r9), .val (.int r10), .val (.ref a11), .val (.ref c30), .val (.int r9), .val (.int r10), .unset, .unset] [])) _
      refine XS.iload P30.here hx rfl (hb hby at_164) rfl ?_
      show Steps p.tables e below (T30.setTop (mkF m 166 #[.val (.int i1), .val (.int i2), .val (.int i3), .val (.int i4), .val (.int i5), .val (.int s1), .val (.int s2), .val (.int r3), .val (.int r4), .val (.int r5), .val (.int r6), .val (.int r7), .val (.int r8), .val (.int r9), .val (.int r10), .val (.ref a11), .val (.ref c30), .val (.int r9), .val (.int r10), .unset, .unset] [(.int r7)])) _
      refine XS.istore P30.here hx rfl (hb hby at_166) rfl (l' := #[.val (.int i1), .val (.int i2), .val (.int i3), .val (.int i4), .val (.int i5), .val (.int s1), .val (.int s2), .val (.int r3), .val (.int r4), .val (.int r5), .val (.int r6), .val (.int r7), .val (.int r8), .val (.int r9), .val (.int r10), .val (.ref a11), .val (.ref c30), .val (.int r9), .val (.int r10), .val (.int r7), .unset]) rfl ?_
      show Steps p.tables e below (T30.setTop (mkF m 168 #[.val (.int i1), .val (.int i2), .val (.int i3), .val (.int i4), .val (.int i5), .val (.int s1), .val (.int s2), .val (.int r3), .val (.int r4), .val (.int r5), .val (.int r6), .val (.int r7), .val (.int r8), .val (.int r9), .val (.int r10), .val (.ref a11), .val (.ref c30), .val (.int r9), .val (.int r10), .val (.int r7), .unset] [])) _
      refine XS.iload P30.here hx rfl (hb hby at_168) rfl ?_
      show Steps p.tables e below (T30.setTop (mkF m 170 #[.val (.int i1), .val (.int i2), .val (.int i3), .val (.int i4), .val (.int i5), .val (.int s1), .val (.int s2), .val (.int r3), .val (.int r4), .val (.int r5), .val (.int r6), .val (.int r7), .val (.int r8), .val (.int r9), .val (.int r10), .val (.ref a11), .val (.ref c30), .val (.int r9), .val (.int r10), .val (.int r7), .unset] [(.int r8)])) _
      refine XS.istore P30.here hx rfl (hb hby at_170) rfl (l' := #[.val (.int i1), .val (.int i2), .val (.int i3), .val (.int i4), .val (.int i5), .val (.int s1), .val (.int s2), .val (.int r3), .val (.int r4), .val (.int r5), .val (.int r6), .val (.int r7), .val (.int r8), .val (.int r9), .val (.int r10), .val (.ref a11), .val (.ref c30), .val (.int r9), .val (.int r10), .val (.int r7), .val (.int r8)]) rfl ?_
      show Steps p.tables e below (T30.setTop (mkF m 172 #[.val (.int i1), .val (.int i2), .val (.int i3), .val (.int i4), .val (.int i5), .val (.int s1), .val (.int s2), .val (.int r3), .val (.int r4), .val (.int r5), .val (.int r6), .val (.int r7), .val (.int r8), .val (.int r9), .val (.int r10), .val (.ref a11), .val (.ref c30), .val (.int r9), .val (.int r10), .val (.int r7), .val (.int r8)] [])) _
      refine XS.iload P30.here hx rfl (hb hby at_172) rfl ?_
      show Steps p.tables e below (T30.setTop (mkF m 174 #[.val (.int i1), .val (.int i2), .val (.int i3), .val (.int i4), .val (.int i5), .val (.int s1), .val (.int s2), .val (.int r3), .val (.int r4), .val (.int r5), .val (.int r6), .val (.int r7), .val (.int r8), .val (.int r9), .val (.int r10), .val (.ref a11), .val (.ref c30), .val (.int r9), .val (.int r10), .val (.int r7), .val (.int r8)] [(.int r7)])) _
      refine XS.iload P30.here hx rfl (hb hby at_174) rfl ?_
      show Steps p.tables e below (T30.setTop (mkF m 176 #[.val (.int i1), .val (.int i2), .val (.int i3), .val (.int i4), .val (.int i5), .val (.int s1), .val (.int s2), .val (.int r3), .val (.int r4), .val (.int r5), .val (.int r6), .val (.int r7), .val (.int r8), .val (.int r9), .val (.int r10), .val (.ref a11), .val (.ref c30), .val (.int r9), .val (.int r10), .val (.int r7), .val (.int r8)] [(.int r10), (.int r7)])) _
      refine XS.iconst P30.here hx rfl (hb hby at_176) ?_
      show Steps p.tables e below (T30.setTop (mkF m 177 #[.val (.int i1), .val (.int i2), .val (.int i3), .val (.int i4), .val (.int i5), .val (.int s1), .val (.int s2), .val (.int r3), .val (.int r4), .val (.int r5), .val (.int r6), .val (.int r7), .val (.int r8), .val (.int r9), .val (.int r10), .val (.ref a11), .val (.ref c30), .val (.int r9), .val (.int r10), .val (.int r7), .val (.int r8)] [(.int (1 : Int32)), (.int r10), (.int r7)])) _
      refine XS.iadd P30.here hx rfl (hb hby at_177) rfl ?_
      show Steps p.tables e below (T30.setTop (mkF m 178 #[.val (.int i1), .val (.int i2), .val (.int i3), .val (.int i4), .val (.int i5), .val (.int s1), .val (.int s2), .val (.int r3), .val (.int r4), .val (.int r5), .val (.int r6), .val (.int r7), .val (.int r8), .val (.int r9), .val (.int r10), .val (.ref a11), .val (.ref c30), .val (.int r9), .val (.int r10), .val (.int r7), .val (.int r8)] [(.int (r10 + (1 : Int32))), (.int r7)])) _
      exact kQ
    show OwnDone p e below _ (T30.setTop (mkF m 178 #[.val (.int i1), .val (.int i2), .val (.int i3), .val (.int i4), .val (.int i5), .val (.int s1), .val (.int s2), .val (.int r3), .val (.int r4), .val (.int r5), .val (.int r6), .val (.int r7), .val (.int r8), .val (.int r9), .val (.int r10), .val (.ref a11), .val (.ref c30), .val (.int r9), .val (.int r10), .val (.int r7), .val (.int r8)] [(.int (r10 + (1 : Int32))), (.int r7)]))
    refine OwnDone.go (A := (T30.setTop (mkF m 181 #[.val (.int i1), .val (.int i2), .val (.int i3), .val (.int i4), .val (.int i5), .val (.int s1), .val (.int s2), .val (.int r3), .val (.int r4), .val (.int r5), .val (.int r6), .val (.int r7), .val (.int r8), .val (.int r9), .val (.int r10), .val (.ref a11), .val (.ref c30), .val (.int r9), .val (.int r10), .val (.int r7), .val (.int r8)] []))) (fun tQ kQ => XS.icmpNo P30.here hx rfl (hb hby at_178) rfl (XT.ii_gt_f hm) kQ) ?_
    show OwnDone p e below _ (T30.setTop (mkF m 181 #[.val (.int i1), .val (.int i2), .val (.int i3), .val (.int i4), .val (.int i5), .val (.int s1), .val (.int s2), .val (.int r3), .val (.int r4), .val (.int r5), .val (.int r6), .val (.int r7), .val (.int r8), .val (.int r9), .val (.int r10), .val (.ref a11), .val (.ref c30), .val (.int r9), .val (.int r10), .val (.int r7), .val (.int r8)] []))
    refine OwnDone.go (A := (T30.setTop (mkF m 183 #[.val (.int i1), .val (.int i2), .val (.int i3), .val (.int i4), .val (.int i5), .val (.int s1), .val (.int s2), .val (.int r3), .val (.int r4), .val (.int r5), .val (.int r6), .val (.int r7), .val (.int r8), .val (.int r9), .val (.int r10), .val (.ref a11), .val (.ref c30), .val (.int r9), .val (.int r10), .val (.int r7), .val (.int r8)] [(.ref c30)]))) (fun tQ kQ => ?_) ?_
    · refine XS.aload P30.here hx rfl (hb hby at_181) rfl rfl ?_
      show Steps p.tables e below (T30.setTop (mkF m 183 #[.val (.int i1), .val (.int i2), .val (.int i3), .val (.int i4), .val (.int i5), .val (.int s1), .val (.int s2), .val (.int r3), .val (.int r4), .val (.int r5), .val (.int r6), .val (.int r7), .val (.int r8), .val (.int r9), .val (.int r10), .val (.ref a11), .val (.ref c30), .val (.int r9), .val (.int r10), .val (.int r7), .val (.int r8)] [(.ref c30)])) _
      exact kQ
    show OwnDone p e below _ (T30.setTop (mkF m 183 #[.val (.int i1), .val (.int i2), .val (.int i3), .val (.int i4), .val (.int i5), .val (.int s1), .val (.int s2), .val (.int r3), .val (.int r4), .val (.int r5), .val (.int r6), .val (.int r7), .val (.int r8), .val (.int r9), .val (.int r10), .val (.ref a11), .val (.ref c30), .val (.int r9), .val (.int r10), .val (.int r7), .val (.int r8)] [(.ref c30)]))
    refine own_callV (y := (⟨"com/example/bounded_array/boundedarray/regex/CodePointSet", "ranges", "()I"⟩ : MethodName)) (z := (⟨"com/example/bounded_array/boundedarray/regex/CodePointSet", "ranges", "()I"⟩ : MethodName)) (CC := "com/example/bounded_array/boundedarray/regex/CodePointSet") C P30 O30.1 (hw _ (List.mem_of_getElem? (i := 179) rfl)) (hw _ (List.mem_of_getElem? (i := 180) rfl)) (hw _ (List.mem_of_getElem? (i := 182) rfl)) (hw _ (List.mem_of_getElem? (i := 182) rfl)) (hw _ (List.mem_of_getElem? (i := 181) rfl)) (hw _ (List.mem_of_getElem? (i := 145) rfl)) (hw _ (List.mem_of_getElem? (i := 183) rfl)) (by decide) (rmrg2 l Z a0 hw c30 ra30 k30 hs30 lo30 hi30 r9 r30 h30 P30.old O30 Y30) (as := []) (rest := []) pd_20 rfl rfl (wd := 0) rfl rfl at_183 all0 (by decide) (by decide) (by decide) (by decide) (fun T33 h33 v33 P33 K33 hQ33 => ?_)
    obtain ⟨rfl, rfl⟩ := hQ33
    show OwnDone p e below _ (T33.setTop (mkF m 186 #[.val (.int i1), .val (.int i2), .val (.int i3), .val (.int i4), .val (.int i5), .val (.int s1), .val (.int s2), .val (.int r3), .val (.int r4), .val (.int r5), .val (.int r6), .val (.int r7), .val (.int r8), .val (.int r9), .val (.int r10), .val (.ref a11), .val (.ref c30), .val (.int r9), .val (.int r10), .val (.int r7), .val (.int r8)] [(.int (1 : Int32))]))
    refine OwnDone.go (A := (T33.setTop (mkF m 187 #[.val (.int i1), .val (.int i2), .val (.int i3), .val (.int i4), .val (.int i5), .val (.int s1), .val (.int s2), .val (.int r3), .val (.int r4), .val (.int r5), .val (.int r6), .val (.int r7), .val (.int r8), .val (.int r9), .val (.int r10), .val (.ref a11), .val (.ref c30), .val (.int r9), .val (.int r10), .val (.int r7), .val (.int r8)] [(.int (1 : Int32)), (.int (1 : Int32))]))) (fun tQ kQ => ?_) ?_
    · refine XS.iconst P33.here hx rfl (hb hby at_186) ?_
      show Steps p.tables e below (T33.setTop (mkF m 187 #[.val (.int i1), .val (.int i2), .val (.int i3), .val (.int i4), .val (.int i5), .val (.int s1), .val (.int s2), .val (.int r3), .val (.int r4), .val (.int r5), .val (.int r6), .val (.int r7), .val (.int r8), .val (.int r9), .val (.int r10), .val (.ref a11), .val (.ref c30), .val (.int r9), .val (.int r10), .val (.int r7), .val (.int r8)] [(.int (1 : Int32)), (.int (1 : Int32))])) _
      exact kQ
    show OwnDone p e below _ (T33.setTop (mkF m 187 #[.val (.int i1), .val (.int i2), .val (.int i3), .val (.int i4), .val (.int i5), .val (.int s1), .val (.int s2), .val (.int r3), .val (.int r4), .val (.int r5), .val (.int r6), .val (.int r7), .val (.int r8), .val (.int r9), .val (.int r10), .val (.ref a11), .val (.ref c30), .val (.int r9), .val (.int r10), .val (.int r7), .val (.int r8)] [(.int (1 : Int32)), (.int (1 : Int32))]))
    refine OwnDone.go (A := (T33.setTop (mkF m 190 #[.val (.int i1), .val (.int i2), .val (.int i3), .val (.int i4), .val (.int i5), .val (.int s1), .val (.int s2), .val (.int r3), .val (.int r4), .val (.int r5), .val (.int r6), .val (.int r7), .val (.int r8), .val (.int r9), .val (.int r10), .val (.ref a11), .val (.ref c30), .val (.int r9), .val (.int r10), .val (.int r7), .val (.int r8)] []))) (fun tQ kQ => XS.icmpNo P33.here hx rfl (hb hby at_187) rfl (XT.ii_ne_f rfl) kQ) ?_
    show OwnDone p e below _ (T33.setTop (mkF m 190 #[.val (.int i1), .val (.int i2), .val (.int i3), .val (.int i4), .val (.int i5), .val (.int s1), .val (.int s2), .val (.int r3), .val (.int r4), .val (.int r5), .val (.int r6), .val (.int r7), .val (.int r8), .val (.int r9), .val (.int r10), .val (.ref a11), .val (.ref c30), .val (.int r9), .val (.int r10), .val (.int r7), .val (.int r8)] []))
    refine OwnDone.go (A := (T33.setTop (mkF m 193 #[.val (.int i1), .val (.int i2), .val (.int i3), .val (.int i4), .val (.int i5), .val (.int s1), .val (.int s2), .val (.int r3), .val (.int r4), .val (.int r5), .val (.int r6), .val (.int r7), .val (.int r8), .val (.int r9), .val (.int r10), .val (.ref a11), .val (.ref c30), .val (.int r9), .val (.int r10), .val (.int r7), .val (.int r8)] [(.int (0 : Int32)), (.ref c30)]))) (fun tQ kQ => ?_) ?_
    · refine XS.aload P33.here hx rfl (hb hby at_190) rfl rfl ?_
      show Steps p.tables e below (T33.setTop (mkF m 192 #[.val (.int i1), .val (.int i2), .val (.int i3), .val (.int i4), .val (.int i5), .val (.int s1), .val (.int s2), .val (.int r3), .val (.int r4), .val (.int r5), .val (.int r6), .val (.int r7), .val (.int r8), .val (.int r9), .val (.int r10), .val (.ref a11), .val (.ref c30), .val (.int r9), .val (.int r10), .val (.int r7), .val (.int r8)] [(.ref c30)])) _
      refine XS.iconst P33.here hx rfl (hb hby at_192) ?_
      show Steps p.tables e below (T33.setTop (mkF m 193 #[.val (.int i1), .val (.int i2), .val (.int i3), .val (.int i4), .val (.int i5), .val (.int s1), .val (.int s2), .val (.int r3), .val (.int r4), .val (.int r5), .val (.int r6), .val (.int r7), .val (.int r8), .val (.int r9), .val (.int r10), .val (.ref a11), .val (.ref c30), .val (.int r9), .val (.int r10), .val (.int r7), .val (.int r8)] [(.int (0 : Int32)), (.ref c30)])) _
      exact kQ
    show OwnDone p e below _ (T33.setTop (mkF m 193 #[.val (.int i1), .val (.int i2), .val (.int i3), .val (.int i4), .val (.int i5), .val (.int s1), .val (.int s2), .val (.int r3), .val (.int r4), .val (.int r5), .val (.int r6), .val (.int r7), .val (.int r8), .val (.int r9), .val (.int r10), .val (.ref a11), .val (.ref c30), .val (.int r9), .val (.int r10), .val (.int r7), .val (.int r8)] [(.int (0 : Int32)), (.ref c30)]))
    refine own_callV (y := (⟨"com/example/bounded_array/boundedarray/regex/CodePointSet", "first", "(I)I"⟩ : MethodName)) (z := (⟨"com/example/bounded_array/boundedarray/regex/CodePointSet", "first", "(I)I"⟩ : MethodName)) (CC := "com/example/bounded_array/boundedarray/regex/CodePointSet") C P33 O30.1 (hw _ (List.mem_of_getElem? (i := 184) rfl)) (hw _ (List.mem_of_getElem? (i := 185) rfl)) (hw _ (List.mem_of_getElem? (i := 187) rfl)) (hw _ (List.mem_of_getElem? (i := 187) rfl)) (hw _ (List.mem_of_getElem? (i := 186) rfl)) (hw _ (List.mem_of_getElem? (i := 145) rfl)) (hw _ (List.mem_of_getElem? (i := 188) rfl)) (by decide) (rmfs20 l Z a0 hw c30 ra30 k30 hs30 lo30 hi30 r9 r30 h30 P33.old O30 Y30) (as := [(.int (0 : Int32))]) (rest := []) pd_21 rfl rfl (wd := 0) rfl rfl at_193 all0 (by decide) (by decide) (by decide) (by decide) (fun T34 h34 v34 P34 K34 hQ34 => ?_)
    obtain ⟨rfl, rfl⟩ := hQ34
    show OwnDone p e below _ (T34.setTop (mkF m 196 #[.val (.int i1), .val (.int i2), .val (.int i3), .val (.int i4), .val (.int i5), .val (.int s1), .val (.int s2), .val (.int r3), .val (.int r4), .val (.int r5), .val (.int r6), .val (.int r7), .val (.int r8), .val (.int r9), .val (.int r10), .val (.ref a11), .val (.ref c30), .val (.int r9), .val (.int r10), .val (.int r7), .val (.int r8)] [(.int r9)]))
    refine OwnDone.go (A := (T34.setTop (mkF m 198 #[.val (.int i1), .val (.int i2), .val (.int i3), .val (.int i4), .val (.int i5), .val (.int s1), .val (.int s2), .val (.int r3), .val (.int r4), .val (.int r5), .val (.int r6), .val (.int r7), .val (.int r8), .val (.int r9), .val (.int r10), .val (.ref a11), .val (.ref c30), .val (.int r9), .val (.int r10), .val (.int r7), .val (.int r8)] [(.int r9), (.int r9)]))) (fun tQ kQ => ?_) ?_
    · refine XS.iload P34.here hx rfl (hb hby at_196) rfl ?_
      show Steps p.tables e below (T34.setTop (mkF m 198 #[.val (.int i1), .val (.int i2), .val (.int i3), .val (.int i4), .val (.int i5), .val (.int s1), .val (.int s2), .val (.int r3), .val (.int r4), .val (.int r5), .val (.int r6), .val (.int r7), .val (.int r8), .val (.int r9), .val (.int r10), .val (.ref a11), .val (.ref c30), .val (.int r9), .val (.int r10), .val (.int r7), .val (.int r8)] [(.int r9), (.int r9)])) _
      exact kQ
    show OwnDone p e below _ (T34.setTop (mkF m 198 #[.val (.int i1), .val (.int i2), .val (.int i3), .val (.int i4), .val (.int i5), .val (.int s1), .val (.int s2), .val (.int r3), .val (.int r4), .val (.int r5), .val (.int r6), .val (.int r7), .val (.int r8), .val (.int r9), .val (.int r10), .val (.ref a11), .val (.ref c30), .val (.int r9), .val (.int r10), .val (.int r7), .val (.int r8)] [(.int r9), (.int r9)]))
    refine OwnDone.go (A := (T34.setTop (mkF m 201 #[.val (.int i1), .val (.int i2), .val (.int i3), .val (.int i4), .val (.int i5), .val (.int s1), .val (.int s2), .val (.int r3), .val (.int r4), .val (.int r5), .val (.int r6), .val (.int r7), .val (.int r8), .val (.int r9), .val (.int r10), .val (.ref a11), .val (.ref c30), .val (.int r9), .val (.int r10), .val (.int r7), .val (.int r8)] []))) (fun tQ kQ => XS.icmpNo P34.here hx rfl (hb hby at_198) rfl (XT.ii_ne_f rfl) kQ) ?_
    show OwnDone p e below _ (T34.setTop (mkF m 201 #[.val (.int i1), .val (.int i2), .val (.int i3), .val (.int i4), .val (.int i5), .val (.int s1), .val (.int s2), .val (.int r3), .val (.int r4), .val (.int r5), .val (.int r6), .val (.int r7), .val (.int r8), .val (.int r9), .val (.int r10), .val (.ref a11), .val (.ref c30), .val (.int r9), .val (.int r10), .val (.int r7), .val (.int r8)] []))
    refine OwnDone.go (A := (T34.setTop (mkF m 204 #[.val (.int i1), .val (.int i2), .val (.int i3), .val (.int i4), .val (.int i5), .val (.int s1), .val (.int s2), .val (.int r3), .val (.int r4), .val (.int r5), .val (.int r6), .val (.int r7), .val (.int r8), .val (.int r9), .val (.int r10), .val (.ref a11), .val (.ref c30), .val (.int r9), .val (.int r10), .val (.int r7), .val (.int r8)] [(.int (0 : Int32)), (.ref c30)]))) (fun tQ kQ => ?_) ?_
    · refine XS.aload P34.here hx rfl (hb hby at_201) rfl rfl ?_
      show Steps p.tables e below (T34.setTop (mkF m 203 #[.val (.int i1), .val (.int i2), .val (.int i3), .val (.int i4), .val (.int i5), .val (.int s1), .val (.int s2), .val (.int r3), .val (.int r4), .val (.int r5), .val (.int r6), .val (.int r7), .val (.int r8), .val (.int r9), .val (.int r10), .val (.ref a11), .val (.ref c30), .val (.int r9), .val (.int r10), .val (.int r7), .val (.int r8)] [(.ref c30)])) _
      refine XS.iconst P34.here hx rfl (hb hby at_203) ?_
      show Steps p.tables e below (T34.setTop (mkF m 204 #[.val (.int i1), .val (.int i2), .val (.int i3), .val (.int i4), .val (.int i5), .val (.int s1), .val (.int s2), .val (.int r3), .val (.int r4), .val (.int r5), .val (.int r6), .val (.int r7), .val (.int r8), .val (.int r9), .val (.int r10), .val (.ref a11), .val (.ref c30), .val (.int r9), .val (.int r10), .val (.int r7), .val (.int r8)] [(.int (0 : Int32)), (.ref c30)])) _
      exact kQ
    show OwnDone p e below _ (T34.setTop (mkF m 204 #[.val (.int i1), .val (.int i2), .val (.int i3), .val (.int i4), .val (.int i5), .val (.int s1), .val (.int s2), .val (.int r3), .val (.int r4), .val (.int r5), .val (.int r6), .val (.int r7), .val (.int r8), .val (.int r9), .val (.int r10), .val (.ref a11), .val (.ref c30), .val (.int r9), .val (.int r10), .val (.int r7), .val (.int r8)] [(.int (0 : Int32)), (.ref c30)]))
    refine own_callV (y := (⟨"com/example/bounded_array/boundedarray/regex/CodePointSet", "last", "(I)I"⟩ : MethodName)) (z := (⟨"com/example/bounded_array/boundedarray/regex/CodePointSet", "last", "(I)I"⟩ : MethodName)) (CC := "com/example/bounded_array/boundedarray/regex/CodePointSet") C P34 O30.1 (hw _ (List.mem_of_getElem? (i := 189) rfl)) (hw _ (List.mem_of_getElem? (i := 190) rfl)) (hw _ (List.mem_of_getElem? (i := 192) rfl)) (hw _ (List.mem_of_getElem? (i := 192) rfl)) (hw _ (List.mem_of_getElem? (i := 191) rfl)) (hw _ (List.mem_of_getElem? (i := 145) rfl)) (hw _ (List.mem_of_getElem? (i := 193) rfl)) (by decide) (rmls20 l Z a0 hw c30 ra30 k30 hs30 lo30 hi30 r9 r30 h30 P34.old O30 Y30) (as := [(.int (0 : Int32))]) (rest := []) pd_21 rfl rfl (wd := 0) rfl rfl at_204 all0 (by decide) (by decide) (by decide) (by decide) (fun T35 h35 v35 P35 K35 hQ35 => ?_)
    obtain ⟨rfl, rfl⟩ := hQ35
    show OwnDone p e below _ (T35.setTop (mkF m 207 #[.val (.int i1), .val (.int i2), .val (.int i3), .val (.int i4), .val (.int i5), .val (.int s1), .val (.int s2), .val (.int r3), .val (.int r4), .val (.int r5), .val (.int r6), .val (.int r7), .val (.int r8), .val (.int r9), .val (.int r10), .val (.ref a11), .val (.ref c30), .val (.int r9), .val (.int r10), .val (.int r7), .val (.int r8)] [(.int r30)]))
    refine OwnDone.go (A := (T35.setTop (mkF m 211 #[.val (.int i1), .val (.int i2), .val (.int i3), .val (.int i4), .val (.int i5), .val (.int s1), .val (.int s2), .val (.int r3), .val (.int r4), .val (.int r5), .val (.int r6), .val (.int r7), .val (.int r8), .val (.int r9), .val (.int r10), .val (.ref a11), .val (.ref c30), .val (.int r9), .val (.int r10), .val (.int r7), .val (.int r8)] [(.int r8), (.int r10), (.int r30)]))) (fun tQ kQ => ?_) ?_
    · refine XS.iload P35.here hx rfl (hb hby at_207) rfl ?_
      show Steps p.tables e below (T35.setTop (mkF m 209 #[.val (.int i1), .val (.int i2), .val (.int i3), .val (.int i4), .val (.int i5), .val (.int s1), .val (.int s2), .val (.int r3), .val (.int r4), .val (.int r5), .val (.int r6), .val (.int r7), .val (.int r8), .val (.int r9), .val (.int r10), .val (.ref a11), .val (.ref c30), .val (.int r9), .val (.int r10), .val (.int r7), .val (.int r8)] [(.int r10), (.int r30)])) _
      refine XS.iload P35.here hx rfl (hb hby at_209) rfl ?_
      show Steps p.tables e below (T35.setTop (mkF m 211 #[.val (.int i1), .val (.int i2), .val (.int i3), .val (.int i4), .val (.int i5), .val (.int s1), .val (.int s2), .val (.int r3), .val (.int r4), .val (.int r5), .val (.int r6), .val (.int r7), .val (.int r8), .val (.int r9), .val (.int r10), .val (.ref a11), .val (.ref c30), .val (.int r9), .val (.int r10), .val (.int r7), .val (.int r8)] [(.int r8), (.int r10), (.int r30)])) _
      exact kQ
    show OwnDone p e below _ (T35.setTop (mkF m 211 #[.val (.int i1), .val (.int i2), .val (.int i3), .val (.int i4), .val (.int i5), .val (.int s1), .val (.int s2), .val (.int r3), .val (.int r4), .val (.int r5), .val (.int r6), .val (.int r7), .val (.int r8), .val (.int r9), .val (.int r10), .val (.ref a11), .val (.ref c30), .val (.int r9), .val (.int r10), .val (.int r7), .val (.int r8)] [(.int r8), (.int r10), (.int r30)]))
    refine own_callS (y := (⟨"java/lang/Math", "max", "(II)I"⟩ : MethodName)) C P35 (hw _ (List.mem_of_getElem? (i := 10) rfl)) (hw _ (List.mem_of_getElem? (i := 11) rfl)) (hw _ (List.mem_of_getElem? (i := 8) rfl)) (hw _ (List.mem_of_getElem? (i := 12) rfl)) (by decide) (rmmax l Z a0 hw r10 r8 h30 P35.old) (as := [(.int r10), (.int r8)]) (rest := [(.int r30)]) pd_10 rfl rfl (wd := 1) rfl rfl at_211 all0 (by decide) (by decide) (by decide) (by decide) (fun T36 h36 v36 P36 K36 hQ36 => ?_)
    obtain ⟨r36, rfl, mx36, rfl⟩ := hQ36
    show OwnDone p e below _ (T36.setTop (mkF m 214 #[.val (.int i1), .val (.int i2), .val (.int i3), .val (.int i4), .val (.int i5), .val (.int s1), .val (.int s2), .val (.int r3), .val (.int r4), .val (.int r5), .val (.int r6), .val (.int r7), .val (.int r8), .val (.int r9), .val (.int r10), .val (.ref a11), .val (.ref c30), .val (.int r9), .val (.int r10), .val (.int r7), .val (.int r8)] [(.int r36), (.int r30)]))
    refine OwnDone.go (A := (T36.setTop (mkF m 217 #[.val (.int i1), .val (.int i2), .val (.int i3), .val (.int i4), .val (.int i5), .val (.int s1), .val (.int s2), .val (.int r3), .val (.int r4), .val (.int r5), .val (.int r6), .val (.int r7), .val (.int r8), .val (.int r9), .val (.int r10), .val (.ref a11), .val (.ref c30), .val (.int r9), .val (.int r10), .val (.int r7), .val (.int r8)] []))) (fun tQ kQ => XS.icmpNo P36.here hx rfl (hb hby at_214) rfl (XT.ii_ne_f (own_mxeq mx30 mx36)) kQ) ?_
    show OwnDone p e below _ (T36.setTop (mkF m 217 #[.val (.int i1), .val (.int i2), .val (.int i3), .val (.int i4), .val (.int i5), .val (.int s1), .val (.int s2), .val (.int r3), .val (.int r4), .val (.int r5), .val (.int r6), .val (.int r7), .val (.int r8), .val (.int r9), .val (.int r10), .val (.ref a11), .val (.ref c30), .val (.int r9), .val (.int r10), .val (.int r7), .val (.int r8)] []))
    refine OwnDone.go (A := (T36.setTop (mkF m 222 #[.val (.int i1), .val (.int i2), .val (.int i3), .val (.int i4), .val (.int i5), .val (.int s1), .val (.int s2), .val (.int r3), .val (.int r4), .val (.int r5), .val (.int r6), .val (.int r7), .val (.int r8), .val (.int r9), .val (.int r10), .val (.ref a11), .val (.ref c30), .val (.int r9), .val (.int r10), .val (.int r7), .val (.int r8)] [(.int (1 : Int32))]))) (fun tQ kQ => ?_) ?_
    · refine XS.iconst P36.here hx rfl (hb hby at_217) ?_
      show Steps p.tables e below (T36.setTop (mkF m 218 #[.val (.int i1), .val (.int i2), .val (.int i3), .val (.int i4), .val (.int i5), .val (.int s1), .val (.int s2), .val (.int r3), .val (.int r4), .val (.int r5), .val (.int r6), .val (.int r7), .val (.int r8), .val (.int r9), .val (.int r10), .val (.ref a11), .val (.ref c30), .val (.int r9), .val (.int r10), .val (.int r7), .val (.int r8)] [(.int (1 : Int32))])) _
      refine XS.goto P36.here hx rfl (pc0 := 218) (pc' := 222) rfl (hb hby at_218) (by decide) (by decide) ?_
      show Steps p.tables e below (T36.setTop (mkF m 222 #[.val (.int i1), .val (.int i2), .val (.int i3), .val (.int i4), .val (.int i5), .val (.int s1), .val (.int s2), .val (.int r3), .val (.int r4), .val (.int r5), .val (.int r6), .val (.int r7), .val (.int r8), .val (.int r9), .val (.int r10), .val (.ref a11), .val (.ref c30), .val (.int r9), .val (.int r10), .val (.int r7), .val (.int r8)] [(.int (1 : Int32))])) _
      exact kQ
    show OwnDone p e below _ (T36.setTop (mkF m 222 #[.val (.int i1), .val (.int i2), .val (.int i3), .val (.int i4), .val (.int i5), .val (.int s1), .val (.int s2), .val (.int r3), .val (.int r4), .val (.int r5), .val (.int r6), .val (.int r7), .val (.int r8), .val (.int r9), .val (.int r10), .val (.ref a11), .val (.ref c30), .val (.int r9), .val (.int r10), .val (.int r7), .val (.int r8)] [(.int (1 : Int32))]))
    refine own_retN C P36 (by simp) (z' := (1 : Int32)) (by decide) at_222 (by decide) (by decide) rfl
  · show OwnDone p e below _ (T14.setTop (mkF m 125 #[.val (.int i1), .val (.int i2), .val (.int i3), .val (.int i4), .val (.int i5), .val (.int s1), .val (.int s2), .val (.int r3), .val (.int r4), .val (.int r5), .val (.int r6), .val (.int r7), .val (.int r8), .val (.int r9), .val (.int r10), .val (.ref a11), .unset, .unset, .unset, .unset, .unset] [(.ref a11)]))
    refine own_callV (y := (⟨"com/example/bounded_array/boundedarray/regex/CodePointSet$Builder", "build", "()Lcom/example/bounded_array/boundedarray/regex/CodePointSet;"⟩ : MethodName)) (z := (⟨"com/example/bounded_array/boundedarray/regex/CodePointSet$Builder", "build", "()Lcom/example/bounded_array/boundedarray/regex/CodePointSet;"⟩ : MethodName)) (CC := "com/example/bounded_array/boundedarray/regex/CodePointSet$Builder") C P14 O14.1 (hw _ (List.mem_of_getElem? (i := 122) rfl)) (hw _ (List.mem_of_getElem? (i := 123) rfl)) (hw _ (List.mem_of_getElem? (i := 125) rfl)) (hw _ (List.mem_of_getElem? (i := 125) rfl)) (hw _ (List.mem_of_getElem? (i := 124) rfl)) (hw _ (List.mem_of_getElem? (i := 15) rfl)) (hw _ (List.mem_of_getElem? (i := 126) rfl)) (by decide) (rmbn l Z a0 hw a11 b12 s12 k12 r7 r8 r9 r10 r9 r10 r7 r8 h14 P14.old O14 Y14 nb12 hp hs hm) (as := []) (rest := []) pd_19 rfl rfl (wd := 0) rfl rfl at_125 all0 (by decide) (by decide) (by decide) (by decide) (fun T37 h37 v37 P37 K37 hQ37 => ?_)
    obtain ⟨c37, ra37, k37, hs37, lo37, hi37, rfl, O37, Y37⟩ := hQ37
    have O38_a11 := O14.keep K37 nin0
    have Y39_b12 := Y14.keep K37 nin0
    show OwnDone p e below _ (T37.setTop (mkF m 128 #[.val (.int i1), .val (.int i2), .val (.int i3), .val (.int i4), .val (.int i5), .val (.int s1), .val (.int s2), .val (.int r3), .val (.int r4), .val (.int r5), .val (.int r6), .val (.int r7), .val (.int r8), .val (.int r9), .val (.int r10), .val (.ref a11), .unset, .unset, .unset, .unset, .unset] [(.ref c37)]))
    refine OwnDone.go (A := (T37.setTop (mkF m 134 #[.val (.int i1), .val (.int i2), .val (.int i3), .val (.int i4), .val (.int i5), .val (.int s1), .val (.int s2), .val (.int r3), .val (.int r4), .val (.int r5), .val (.int r6), .val (.int r7), .val (.int r8), .val (.int r9), .val (.int r10), .val (.ref a11), .val (.ref c37), .unset, .unset, .unset, .unset] [(.int r9), (.int r7)]))) (fun tQ kQ => ?_) ?_
    · refine XS.astore P37.here hx rfl (hb hby at_128) rfl rfl (l' := #[.val (.int i1), .val (.int i2), .val (.int i3), .val (.int i4), .val (.int i5), .val (.int s1), .val (.int s2), .val (.int r3), .val (.int r4), .val (.int r5), .val (.int r6), .val (.int r7), .val (.int r8), .val (.int r9), .val (.int r10), .val (.ref a11), .val (.ref c37), .unset, .unset, .unset, .unset]) rfl ?_
      show Steps p.tables e below (T37.setTop (mkF m 130 #[.val (.int i1), .val (.int i2), .val (.int i3), .val (.int i4), .val (.int i5), .val (.int s1), .val (.int s2), .val (.int r3), .val (.int r4), .val (.int r5), .val (.int r6), .val (.int r7), .val (.int r8), .val (.int r9), .val (.int r10), .val (.ref a11), .val (.ref c37), .unset, .unset, .unset, .unset] [])) _
      refine XS.iload P37.here hx rfl (hb hby at_130) rfl ?_
      show Steps p.tables e below (T37.setTop (mkF m 132 #[.val (.int i1), .val (.int i2), .val (.int i3), .val (.int i4), .val (.int i5), .val (.int s1), .val (.int s2), .val (.int r3), .val (.int r4), .val (.int r5), .val (.int r6), .val (.int r7), .val (.int r8), .val (.int r9), .val (.int r10), .val (.ref a11), .val (.ref c37), .unset, .unset, .unset, .unset] [(.int r7)])) _
      refine XS.iload P37.here hx rfl (hb hby at_132) rfl ?_
      show Steps p.tables e below (T37.setTop (mkF m 134 #[.val (.int i1), .val (.int i2), .val (.int i3), .val (.int i4), .val (.int i5), .val (.int s1), .val (.int s2), .val (.int r3), .val (.int r4), .val (.int r5), .val (.int r6), .val (.int r7), .val (.int r8), .val (.int r9), .val (.int r10), .val (.ref a11), .val (.ref c37), .unset, .unset, .unset, .unset] [(.int r9), (.int r7)])) _
      exact kQ
    show OwnDone p e below _ (T37.setTop (mkF m 134 #[.val (.int i1), .val (.int i2), .val (.int i3), .val (.int i4), .val (.int i5), .val (.int s1), .val (.int s2), .val (.int r3), .val (.int r4), .val (.int r5), .val (.int r6), .val (.int r7), .val (.int r8), .val (.int r9), .val (.int r10), .val (.ref a11), .val (.ref c37), .unset, .unset, .unset, .unset] [(.int r9), (.int r7)]))
    refine OwnDone.go (A := (T37.setTop (mkF m 156 #[.val (.int i1), .val (.int i2), .val (.int i3), .val (.int i4), .val (.int i5), .val (.int s1), .val (.int s2), .val (.int r3), .val (.int r4), .val (.int r5), .val (.int r6), .val (.int r7), .val (.int r8), .val (.int r9), .val (.int r10), .val (.ref a11), .val (.ref c37), .unset, .unset, .unset, .unset] []))) (fun tQ kQ => XS.icmpYes P37.here hx rfl (pc0 := 134) (pc' := 156) rfl (hb hby at_134) rfl (XT.ii_gt_t hA) (by decide) (by decide) kQ) ?_
    show OwnDone p e below _ (T37.setTop (mkF m 156 #[.val (.int i1), .val (.int i2), .val (.int i3), .val (.int i4), .val (.int i5), .val (.int s1), .val (.int s2), .val (.int r3), .val (.int r4), .val (.int r5), .val (.int r6), .val (.int r7), .val (.int r8), .val (.int r9), .val (.int r10), .val (.ref a11), .val (.ref c37), .unset, .unset, .unset, .unset] []))
    refine OwnDone.go (A := (T37.setTop (mkF m 178 #[.val (.int i1), .val (.int i2), .val (.int i3), .val (.int i4), .val (.int i5), .val (.int s1), .val (.int s2), .val (.int r3), .val (.int r4), .val (.int r5), .val (.int r6), .val (.int r7), .val (.int r8), .val (.int r9), .val (.int r10), .val (.ref a11), .val (.ref c37), .val (.int r9), .val (.int r10), .val (.int r7), .val (.int r8)] [(.int (r10 + (1 : Int32))), (.int r7)]))) (fun tQ kQ => ?_) ?_
    · refine XS.iload P37.here hx rfl (hb hby at_156) rfl ?_
      show Steps p.tables e below (T37.setTop (mkF m 158 #[.val (.int i1), .val (.int i2), .val (.int i3), .val (.int i4), .val (.int i5), .val (.int s1), .val (.int s2), .val (.int r3), .val (.int r4), .val (.int r5), .val (.int r6), .val (.int r7), .val (.int r8), .val (.int r9), .val (.int r10), .val (.ref a11), .val (.ref c37), .unset, .unset, .unset, .unset] [(.int r9)])) _
      refine XS.istore P37.here hx rfl (hb hby at_158) rfl (l' := #[.val (.int i1), .val (.int i2), .val (.int i3), .val (.int i4), .val (.int i5), .val (.int s1), .val (.int s2), .val (.int r3), .val (.int r4), .val (.int r5), .val (.int r6), .val (.int r7), .val (.int r8), .val (.int r9), .val (.int r10), .val (.ref a11), .val (.ref c37), .val (.int r9), .unset, .unset, .unset]) rfl ?_
      show Steps p.tables e below (T37.setTop (mkF m 160 #[.val (.int i1), .val (.int i2), .val (.int i3), .val (.int i4), .val (.int i5), .val (.int s1), .val (.int s2), .val (.int r3), .val (.int r4), .val (.int r5), .val (.int r6), .val (.int r7), .val (.int r8), .val (.int r9), .val (.int r10), .val (.ref a11), .val (.ref c37), .val (.int r9), .unset, .unset, .unset] [])) _
      refine XS.iload P37.here hx rfl (hb hby at_160) rfl ?_
      show Steps p.tables e below (T37.setTop (mkF m 162 #[.val (.int i1), .val (.int i2), .val (.int i3), .val (.int i4), .val (.int i5), .val (.int s1), .val (.int s2), .val (.int r3), .val (.int r4), .val (.int r5), .val (.int r6), .val (.int r7), .val (.int r8), .val (.int r9), .val (.int r10), .val (.ref a11), .val (.ref c37), .val (.int r9), .unset, .unset, .unset] [(.int r10)])) _
      refine XS.istore P37.here hx rfl (hb hby at_162) rfl (l' := #[.val (.int i1), .val (.int i2), .val (.int i3), .val (.int i4), .val (.int i5), .val (.int s1), .val (.int s2), .val (.int r3), .val (.int r4), .val (.int r5), .val (.int r6), .val (.int r7), .val (.int r8), .val (.int r9), .val (.int r10), .val (.ref a11), .val (.ref c37), .val (.int r9), .val (.int r10), .unset, .unset]) rfl ?_
      show Steps p.tables e below (T37.setTop (mkF m 164 #[.val (.int i1), .val (.int i2), .val (.int i3), .val (.int i4), .val (.int i5), .val (.int s1), .val (.int s2), .val (.int r3), .val (.int r4), .val (.int r5), .val (.int r6), .val (.int r7), .val (.int r8), .val (.int r9), .val (.int r10), .val (.ref a11), .val (.ref c37), .val (.int r9), .val (.int r10), .unset, .unset] [])) _
      refine XS.iload P37.here hx rfl (hb hby at_164) rfl ?_
      show Steps p.tables e below (T37.setTop (mkF m 166 #[.val (.int i1), .val (.int i2), .val (.int i3), .val (.int i4), .val (.int i5), .val (.int s1), .val (.int s2), .val (.int r3), .val (.int r4), .val (.int r5), .val (.int r6), .val (.int r7), .val (.int r8), .val (.int r9), .val (.int r10), .val (.ref a11), .val (.ref c37), .val (.int r9), .val (.int r10), .unset, .unset] [(.int r7)])) _
      refine XS.istore P37.here hx rfl (hb hby at_166) rfl (l' := #[.val (.int i1), .val (.int i2), .val (.int i3), .val (.int i4), .val (.int i5), .val (.int s1), .val (.int s2), .val (.int r3), .val (.int r4), .val (.int r5), .val (.int r6), .val (.int r7), .val (.int r8), .val (.int r9), .val (.int r10), .val (.ref a11), .val (.ref c37), .val (.int r9), .val (.int r10), .val (.int r7), .unset]) rfl ?_
      show Steps p.tables e below (T37.setTop (mkF m 168 #[.val (.int i1), .val (.int i2), .val (.int i3), .val (.int i4), .val (.int i5), .val (.int s1), .val (.int s2), .val (.int r3), .val (.int r4), .val (.int r5), .val (.int r6), .val (.int r7), .val (.int r8), .val (.int r9), .val (.int r10), .val (.ref a11), .val (.ref c37), .val (.int r9), .val (.int r10), .val (.int r7), .unset] [])) _
      refine XS.iload P37.here hx rfl (hb hby at_168) rfl ?_
      show Steps p.tables e below (T37.setTop (mkF m 170 #[.val (.int i1), .val (.int i2), .val (.int i3), .val (.int i4), .val (.int i5), .val (.int s1), .val (.int s2), .val (.int r3), .val (.int r4), .val (.int r5), .val (.int r6), .val (.int r7), .val (.int r8), .val (.int r9), .val (.int r10), .val (.ref a11), .val (.ref c37), .val (.int r9), .val (.int r10), .val (.int r7), .unset] [(.int r8)])) _
      refine XS.istore P37.here hx rfl (hb hby at_170) rfl (l' := #[.val (.int i1), .val (.int i2), .val (.int i3), .val (.int i4), .val (.int i5), .val (.int s1), .val (.int s2), .val (.int r3), .val (.int r4), .val (.int r5), .val (.int r6), .val (.int r7), .val (.int r8), .val (.int r9), .val (.int r10), .val (.ref a11), .val (.ref c37), .val (.int r9), .val (.int r10), .val (.int r7), .val (.int r8)]) rfl ?_
      show Steps p.tables e below (T37.setTop (mkF m 172 #[.val (.int i1), .val (.int i2), .val (.int i3), .val (.int i4), .val (.int i5), .val (.int s1), .val (.int s2), .val (.int r3), .val (.int r4), .val (.int r5), .val (.int r6), .val (.int r7), .val (.int r8), .val (.int r9), .val (.int r10), .val (.ref a11), .val (.ref c37), .val (.int r9), .val (.int r10), .val (.int r7), .val (.int r8)] [])) _
      refine XS.iload P37.here hx rfl (hb hby at_172) rfl ?_
      show Steps p.tables e below (T37.setTop (mkF m 174 #[.val (.int i1), .val (.int i2), .val (.int i3), .val (.int i4), .val (.int i5), .val (.int s1), .val (.int s2), .val (.int r3), .val (.int r4), .val (.int r5), .val (.int r6), .val (.int r7), .val (.int r8), .val (.int r9), .val (.int r10), .val (.ref a11), .val (.ref c37), .val (.int r9), .val (.int r10), .val (.int r7), .val (.int r8)] [(.int r7)])) _
      refine XS.iload P37.here hx rfl (hb hby at_174) rfl ?_
      show Steps p.tables e below (T37.setTop (mkF m 176 #[.val (.int i1), .val (.int i2), .val (.int i3), .val (.int i4), .val (.int i5), .val (.int s1), .val (.int s2), .val (.int r3), .val (.int r4), .val (.int r5), .val (.int r6), .val (.int r7), .val (.int r8), .val (.int r9), .val (.int r10), .val (.ref a11), .val (.ref c37), .val (.int r9), .val (.int r10), .val (.int r7), .val (.int r8)] [(.int r10), (.int r7)])) _
      refine XS.iconst P37.here hx rfl (hb hby at_176) ?_
      show Steps p.tables e below (T37.setTop (mkF m 177 #[.val (.int i1), .val (.int i2), .val (.int i3), .val (.int i4), .val (.int i5), .val (.int s1), .val (.int s2), .val (.int r3), .val (.int r4), .val (.int r5), .val (.int r6), .val (.int r7), .val (.int r8), .val (.int r9), .val (.int r10), .val (.ref a11), .val (.ref c37), .val (.int r9), .val (.int r10), .val (.int r7), .val (.int r8)] [(.int (1 : Int32)), (.int r10), (.int r7)])) _
      refine XS.iadd P37.here hx rfl (hb hby at_177) rfl ?_
      show Steps p.tables e below (T37.setTop (mkF m 178 #[.val (.int i1), .val (.int i2), .val (.int i3), .val (.int i4), .val (.int i5), .val (.int s1), .val (.int s2), .val (.int r3), .val (.int r4), .val (.int r5), .val (.int r6), .val (.int r7), .val (.int r8), .val (.int r9), .val (.int r10), .val (.ref a11), .val (.ref c37), .val (.int r9), .val (.int r10), .val (.int r7), .val (.int r8)] [(.int (r10 + (1 : Int32))), (.int r7)])) _
      exact kQ
    show OwnDone p e below _ (T37.setTop (mkF m 178 #[.val (.int i1), .val (.int i2), .val (.int i3), .val (.int i4), .val (.int i5), .val (.int s1), .val (.int s2), .val (.int r3), .val (.int r4), .val (.int r5), .val (.int r6), .val (.int r7), .val (.int r8), .val (.int r9), .val (.int r10), .val (.ref a11), .val (.ref c37), .val (.int r9), .val (.int r10), .val (.int r7), .val (.int r8)] [(.int (r10 + (1 : Int32))), (.int r7)]))
    refine OwnDone.go (A := (T37.setTop (mkF m 223 #[.val (.int i1), .val (.int i2), .val (.int i3), .val (.int i4), .val (.int i5), .val (.int s1), .val (.int s2), .val (.int r3), .val (.int r4), .val (.int r5), .val (.int r6), .val (.int r7), .val (.int r8), .val (.int r9), .val (.int r10), .val (.ref a11), .val (.ref c37), .val (.int r9), .val (.int r10), .val (.int r7), .val (.int r8)] []))) (fun tQ kQ => XS.icmpYes P37.here hx rfl (pc0 := 178) (pc' := 223) rfl (hb hby at_178) rfl (XT.ii_gt_t hm) (by decide) (by decide) kQ) ?_
    show OwnDone p e below _ (T37.setTop (mkF m 223 #[.val (.int i1), .val (.int i2), .val (.int i3), .val (.int i4), .val (.int i5), .val (.int s1), .val (.int s2), .val (.int r3), .val (.int r4), .val (.int r5), .val (.int r6), .val (.int r7), .val (.int r8), .val (.int r9), .val (.int r10), .val (.ref a11), .val (.ref c37), .val (.int r9), .val (.int r10), .val (.int r7), .val (.int r8)] []))
    refine OwnDone.go (A := (T37.setTop (mkF m 225 #[.val (.int i1), .val (.int i2), .val (.int i3), .val (.int i4), .val (.int i5), .val (.int s1), .val (.int s2), .val (.int r3), .val (.int r4), .val (.int r5), .val (.int r6), .val (.int r7), .val (.int r8), .val (.int r9), .val (.int r10), .val (.ref a11), .val (.ref c37), .val (.int r9), .val (.int r10), .val (.int r7), .val (.int r8)] [(.ref c37)]))) (fun tQ kQ => ?_) ?_
    · refine XS.aload P37.here hx rfl (hb hby at_223) rfl rfl ?_
      show Steps p.tables e below (T37.setTop (mkF m 225 #[.val (.int i1), .val (.int i2), .val (.int i3), .val (.int i4), .val (.int i5), .val (.int s1), .val (.int s2), .val (.int r3), .val (.int r4), .val (.int r5), .val (.int r6), .val (.int r7), .val (.int r8), .val (.int r9), .val (.int r10), .val (.ref a11), .val (.ref c37), .val (.int r9), .val (.int r10), .val (.int r7), .val (.int r8)] [(.ref c37)])) _
      exact kQ
    show OwnDone p e below _ (T37.setTop (mkF m 225 #[.val (.int i1), .val (.int i2), .val (.int i3), .val (.int i4), .val (.int i5), .val (.int s1), .val (.int s2), .val (.int r3), .val (.int r4), .val (.int r5), .val (.int r6), .val (.int r7), .val (.int r8), .val (.int r9), .val (.int r10), .val (.ref a11), .val (.ref c37), .val (.int r9), .val (.int r10), .val (.int r7), .val (.int r8)] [(.ref c37)]))
    refine own_callV (y := (⟨"com/example/bounded_array/boundedarray/regex/CodePointSet", "ranges", "()I"⟩ : MethodName)) (z := (⟨"com/example/bounded_array/boundedarray/regex/CodePointSet", "ranges", "()I"⟩ : MethodName)) (CC := "com/example/bounded_array/boundedarray/regex/CodePointSet") C P37 O37.1 (hw _ (List.mem_of_getElem? (i := 179) rfl)) (hw _ (List.mem_of_getElem? (i := 180) rfl)) (hw _ (List.mem_of_getElem? (i := 182) rfl)) (hw _ (List.mem_of_getElem? (i := 182) rfl)) (hw _ (List.mem_of_getElem? (i := 181) rfl)) (hw _ (List.mem_of_getElem? (i := 145) rfl)) (hw _ (List.mem_of_getElem? (i := 183) rfl)) (by decide) (rmrg4 l Z a0 hw c37 ra37 k37 hs37 lo37 hi37 r9 r10 r7 r8 h37 P37.old O37 Y37) (as := []) (rest := []) pd_20 rfl rfl (wd := 0) rfl rfl at_225 all0 (by decide) (by decide) (by decide) (by decide) (fun T40 h40 v40 P40 K40 hQ40 => ?_)
    obtain ⟨rfl, rfl⟩ := hQ40
    show OwnDone p e below _ (T40.setTop (mkF m 228 #[.val (.int i1), .val (.int i2), .val (.int i3), .val (.int i4), .val (.int i5), .val (.int s1), .val (.int s2), .val (.int r3), .val (.int r4), .val (.int r5), .val (.int r6), .val (.int r7), .val (.int r8), .val (.int r9), .val (.int r10), .val (.ref a11), .val (.ref c37), .val (.int r9), .val (.int r10), .val (.int r7), .val (.int r8)] [(.int (2 : Int32))]))
    refine OwnDone.go (A := (T40.setTop (mkF m 229 #[.val (.int i1), .val (.int i2), .val (.int i3), .val (.int i4), .val (.int i5), .val (.int s1), .val (.int s2), .val (.int r3), .val (.int r4), .val (.int r5), .val (.int r6), .val (.int r7), .val (.int r8), .val (.int r9), .val (.int r10), .val (.ref a11), .val (.ref c37), .val (.int r9), .val (.int r10), .val (.int r7), .val (.int r8)] [(.int (2 : Int32)), (.int (2 : Int32))]))) (fun tQ kQ => ?_) ?_
    · refine XS.iconst P40.here hx rfl (hb hby at_228) ?_
      show Steps p.tables e below (T40.setTop (mkF m 229 #[.val (.int i1), .val (.int i2), .val (.int i3), .val (.int i4), .val (.int i5), .val (.int s1), .val (.int s2), .val (.int r3), .val (.int r4), .val (.int r5), .val (.int r6), .val (.int r7), .val (.int r8), .val (.int r9), .val (.int r10), .val (.ref a11), .val (.ref c37), .val (.int r9), .val (.int r10), .val (.int r7), .val (.int r8)] [(.int (2 : Int32)), (.int (2 : Int32))])) _
      exact kQ
    show OwnDone p e below _ (T40.setTop (mkF m 229 #[.val (.int i1), .val (.int i2), .val (.int i3), .val (.int i4), .val (.int i5), .val (.int s1), .val (.int s2), .val (.int r3), .val (.int r4), .val (.int r5), .val (.int r6), .val (.int r7), .val (.int r8), .val (.int r9), .val (.int r10), .val (.ref a11), .val (.ref c37), .val (.int r9), .val (.int r10), .val (.int r7), .val (.int r8)] [(.int (2 : Int32)), (.int (2 : Int32))]))
    refine OwnDone.go (A := (T40.setTop (mkF m 232 #[.val (.int i1), .val (.int i2), .val (.int i3), .val (.int i4), .val (.int i5), .val (.int s1), .val (.int s2), .val (.int r3), .val (.int r4), .val (.int r5), .val (.int r6), .val (.int r7), .val (.int r8), .val (.int r9), .val (.int r10), .val (.ref a11), .val (.ref c37), .val (.int r9), .val (.int r10), .val (.int r7), .val (.int r8)] []))) (fun tQ kQ => XS.icmpNo P40.here hx rfl (hb hby at_229) rfl (XT.ii_ne_f rfl) kQ) ?_
    show OwnDone p e below _ (T40.setTop (mkF m 232 #[.val (.int i1), .val (.int i2), .val (.int i3), .val (.int i4), .val (.int i5), .val (.int s1), .val (.int s2), .val (.int r3), .val (.int r4), .val (.int r5), .val (.int r6), .val (.int r7), .val (.int r8), .val (.int r9), .val (.int r10), .val (.ref a11), .val (.ref c37), .val (.int r9), .val (.int r10), .val (.int r7), .val (.int r8)] []))
    refine OwnDone.go (A := (T40.setTop (mkF m 235 #[.val (.int i1), .val (.int i2), .val (.int i3), .val (.int i4), .val (.int i5), .val (.int s1), .val (.int s2), .val (.int r3), .val (.int r4), .val (.int r5), .val (.int r6), .val (.int r7), .val (.int r8), .val (.int r9), .val (.int r10), .val (.ref a11), .val (.ref c37), .val (.int r9), .val (.int r10), .val (.int r7), .val (.int r8)] [(.int (0 : Int32)), (.ref c37)]))) (fun tQ kQ => ?_) ?_
    · refine XS.aload P40.here hx rfl (hb hby at_232) rfl rfl ?_
      show Steps p.tables e below (T40.setTop (mkF m 234 #[.val (.int i1), .val (.int i2), .val (.int i3), .val (.int i4), .val (.int i5), .val (.int s1), .val (.int s2), .val (.int r3), .val (.int r4), .val (.int r5), .val (.int r6), .val (.int r7), .val (.int r8), .val (.int r9), .val (.int r10), .val (.ref a11), .val (.ref c37), .val (.int r9), .val (.int r10), .val (.int r7), .val (.int r8)] [(.ref c37)])) _
      refine XS.iconst P40.here hx rfl (hb hby at_234) ?_
      show Steps p.tables e below (T40.setTop (mkF m 235 #[.val (.int i1), .val (.int i2), .val (.int i3), .val (.int i4), .val (.int i5), .val (.int s1), .val (.int s2), .val (.int r3), .val (.int r4), .val (.int r5), .val (.int r6), .val (.int r7), .val (.int r8), .val (.int r9), .val (.int r10), .val (.ref a11), .val (.ref c37), .val (.int r9), .val (.int r10), .val (.int r7), .val (.int r8)] [(.int (0 : Int32)), (.ref c37)])) _
      exact kQ
    show OwnDone p e below _ (T40.setTop (mkF m 235 #[.val (.int i1), .val (.int i2), .val (.int i3), .val (.int i4), .val (.int i5), .val (.int s1), .val (.int s2), .val (.int r3), .val (.int r4), .val (.int r5), .val (.int r6), .val (.int r7), .val (.int r8), .val (.int r9), .val (.int r10), .val (.ref a11), .val (.ref c37), .val (.int r9), .val (.int r10), .val (.int r7), .val (.int r8)] [(.int (0 : Int32)), (.ref c37)]))
    refine own_callV (y := (⟨"com/example/bounded_array/boundedarray/regex/CodePointSet", "first", "(I)I"⟩ : MethodName)) (z := (⟨"com/example/bounded_array/boundedarray/regex/CodePointSet", "first", "(I)I"⟩ : MethodName)) (CC := "com/example/bounded_array/boundedarray/regex/CodePointSet") C P40 O37.1 (hw _ (List.mem_of_getElem? (i := 184) rfl)) (hw _ (List.mem_of_getElem? (i := 185) rfl)) (hw _ (List.mem_of_getElem? (i := 187) rfl)) (hw _ (List.mem_of_getElem? (i := 187) rfl)) (hw _ (List.mem_of_getElem? (i := 186) rfl)) (hw _ (List.mem_of_getElem? (i := 145) rfl)) (hw _ (List.mem_of_getElem? (i := 188) rfl)) (by decide) (rmfs40 l Z a0 hw c37 ra37 k37 hs37 lo37 hi37 r9 r10 r7 r8 h37 P40.old O37 Y37) (as := [(.int (0 : Int32))]) (rest := []) pd_21 rfl rfl (wd := 0) rfl rfl at_235 all0 (by decide) (by decide) (by decide) (by decide) (fun T41 h41 v41 P41 K41 hQ41 => ?_)
    obtain ⟨rfl, rfl⟩ := hQ41
    show OwnDone p e below _ (T41.setTop (mkF m 238 #[.val (.int i1), .val (.int i2), .val (.int i3), .val (.int i4), .val (.int i5), .val (.int s1), .val (.int s2), .val (.int r3), .val (.int r4), .val (.int r5), .val (.int r6), .val (.int r7), .val (.int r8), .val (.int r9), .val (.int r10), .val (.ref a11), .val (.ref c37), .val (.int r9), .val (.int r10), .val (.int r7), .val (.int r8)] [(.int r9)]))
    refine OwnDone.go (A := (T41.setTop (mkF m 240 #[.val (.int i1), .val (.int i2), .val (.int i3), .val (.int i4), .val (.int i5), .val (.int s1), .val (.int s2), .val (.int r3), .val (.int r4), .val (.int r5), .val (.int r6), .val (.int r7), .val (.int r8), .val (.int r9), .val (.int r10), .val (.ref a11), .val (.ref c37), .val (.int r9), .val (.int r10), .val (.int r7), .val (.int r8)] [(.int r9), (.int r9)]))) (fun tQ kQ => ?_) ?_
    · refine XS.iload P41.here hx rfl (hb hby at_238) rfl ?_
      show Steps p.tables e below (T41.setTop (mkF m 240 #[.val (.int i1), .val (.int i2), .val (.int i3), .val (.int i4), .val (.int i5), .val (.int s1), .val (.int s2), .val (.int r3), .val (.int r4), .val (.int r5), .val (.int r6), .val (.int r7), .val (.int r8), .val (.int r9), .val (.int r10), .val (.ref a11), .val (.ref c37), .val (.int r9), .val (.int r10), .val (.int r7), .val (.int r8)] [(.int r9), (.int r9)])) _
      exact kQ
    show OwnDone p e below _ (T41.setTop (mkF m 240 #[.val (.int i1), .val (.int i2), .val (.int i3), .val (.int i4), .val (.int i5), .val (.int s1), .val (.int s2), .val (.int r3), .val (.int r4), .val (.int r5), .val (.int r6), .val (.int r7), .val (.int r8), .val (.int r9), .val (.int r10), .val (.ref a11), .val (.ref c37), .val (.int r9), .val (.int r10), .val (.int r7), .val (.int r8)] [(.int r9), (.int r9)]))
    refine OwnDone.go (A := (T41.setTop (mkF m 243 #[.val (.int i1), .val (.int i2), .val (.int i3), .val (.int i4), .val (.int i5), .val (.int s1), .val (.int s2), .val (.int r3), .val (.int r4), .val (.int r5), .val (.int r6), .val (.int r7), .val (.int r8), .val (.int r9), .val (.int r10), .val (.ref a11), .val (.ref c37), .val (.int r9), .val (.int r10), .val (.int r7), .val (.int r8)] []))) (fun tQ kQ => XS.icmpNo P41.here hx rfl (hb hby at_240) rfl (XT.ii_ne_f rfl) kQ) ?_
    show OwnDone p e below _ (T41.setTop (mkF m 243 #[.val (.int i1), .val (.int i2), .val (.int i3), .val (.int i4), .val (.int i5), .val (.int s1), .val (.int s2), .val (.int r3), .val (.int r4), .val (.int r5), .val (.int r6), .val (.int r7), .val (.int r8), .val (.int r9), .val (.int r10), .val (.ref a11), .val (.ref c37), .val (.int r9), .val (.int r10), .val (.int r7), .val (.int r8)] []))
    refine OwnDone.go (A := (T41.setTop (mkF m 246 #[.val (.int i1), .val (.int i2), .val (.int i3), .val (.int i4), .val (.int i5), .val (.int s1), .val (.int s2), .val (.int r3), .val (.int r4), .val (.int r5), .val (.int r6), .val (.int r7), .val (.int r8), .val (.int r9), .val (.int r10), .val (.ref a11), .val (.ref c37), .val (.int r9), .val (.int r10), .val (.int r7), .val (.int r8)] [(.int (0 : Int32)), (.ref c37)]))) (fun tQ kQ => ?_) ?_
    · refine XS.aload P41.here hx rfl (hb hby at_243) rfl rfl ?_
      show Steps p.tables e below (T41.setTop (mkF m 245 #[.val (.int i1), .val (.int i2), .val (.int i3), .val (.int i4), .val (.int i5), .val (.int s1), .val (.int s2), .val (.int r3), .val (.int r4), .val (.int r5), .val (.int r6), .val (.int r7), .val (.int r8), .val (.int r9), .val (.int r10), .val (.ref a11), .val (.ref c37), .val (.int r9), .val (.int r10), .val (.int r7), .val (.int r8)] [(.ref c37)])) _
      refine XS.iconst P41.here hx rfl (hb hby at_245) ?_
      show Steps p.tables e below (T41.setTop (mkF m 246 #[.val (.int i1), .val (.int i2), .val (.int i3), .val (.int i4), .val (.int i5), .val (.int s1), .val (.int s2), .val (.int r3), .val (.int r4), .val (.int r5), .val (.int r6), .val (.int r7), .val (.int r8), .val (.int r9), .val (.int r10), .val (.ref a11), .val (.ref c37), .val (.int r9), .val (.int r10), .val (.int r7), .val (.int r8)] [(.int (0 : Int32)), (.ref c37)])) _
      exact kQ
    show OwnDone p e below _ (T41.setTop (mkF m 246 #[.val (.int i1), .val (.int i2), .val (.int i3), .val (.int i4), .val (.int i5), .val (.int s1), .val (.int s2), .val (.int r3), .val (.int r4), .val (.int r5), .val (.int r6), .val (.int r7), .val (.int r8), .val (.int r9), .val (.int r10), .val (.ref a11), .val (.ref c37), .val (.int r9), .val (.int r10), .val (.int r7), .val (.int r8)] [(.int (0 : Int32)), (.ref c37)]))
    refine own_callV (y := (⟨"com/example/bounded_array/boundedarray/regex/CodePointSet", "last", "(I)I"⟩ : MethodName)) (z := (⟨"com/example/bounded_array/boundedarray/regex/CodePointSet", "last", "(I)I"⟩ : MethodName)) (CC := "com/example/bounded_array/boundedarray/regex/CodePointSet") C P41 O37.1 (hw _ (List.mem_of_getElem? (i := 189) rfl)) (hw _ (List.mem_of_getElem? (i := 190) rfl)) (hw _ (List.mem_of_getElem? (i := 192) rfl)) (hw _ (List.mem_of_getElem? (i := 192) rfl)) (hw _ (List.mem_of_getElem? (i := 191) rfl)) (hw _ (List.mem_of_getElem? (i := 145) rfl)) (hw _ (List.mem_of_getElem? (i := 193) rfl)) (by decide) (rmls40 l Z a0 hw c37 ra37 k37 hs37 lo37 hi37 r9 r10 r7 r8 h37 P41.old O37 Y37) (as := [(.int (0 : Int32))]) (rest := []) pd_21 rfl rfl (wd := 0) rfl rfl at_246 all0 (by decide) (by decide) (by decide) (by decide) (fun T42 h42 v42 P42 K42 hQ42 => ?_)
    obtain ⟨rfl, rfl⟩ := hQ42
    show OwnDone p e below _ (T42.setTop (mkF m 249 #[.val (.int i1), .val (.int i2), .val (.int i3), .val (.int i4), .val (.int i5), .val (.int s1), .val (.int s2), .val (.int r3), .val (.int r4), .val (.int r5), .val (.int r6), .val (.int r7), .val (.int r8), .val (.int r9), .val (.int r10), .val (.ref a11), .val (.ref c37), .val (.int r9), .val (.int r10), .val (.int r7), .val (.int r8)] [(.int r10)]))
    refine OwnDone.go (A := (T42.setTop (mkF m 251 #[.val (.int i1), .val (.int i2), .val (.int i3), .val (.int i4), .val (.int i5), .val (.int s1), .val (.int s2), .val (.int r3), .val (.int r4), .val (.int r5), .val (.int r6), .val (.int r7), .val (.int r8), .val (.int r9), .val (.int r10), .val (.ref a11), .val (.ref c37), .val (.int r9), .val (.int r10), .val (.int r7), .val (.int r8)] [(.int r10), (.int r10)]))) (fun tQ kQ => ?_) ?_
    · refine XS.iload P42.here hx rfl (hb hby at_249) rfl ?_
      show Steps p.tables e below (T42.setTop (mkF m 251 #[.val (.int i1), .val (.int i2), .val (.int i3), .val (.int i4), .val (.int i5), .val (.int s1), .val (.int s2), .val (.int r3), .val (.int r4), .val (.int r5), .val (.int r6), .val (.int r7), .val (.int r8), .val (.int r9), .val (.int r10), .val (.ref a11), .val (.ref c37), .val (.int r9), .val (.int r10), .val (.int r7), .val (.int r8)] [(.int r10), (.int r10)])) _
      exact kQ
    show OwnDone p e below _ (T42.setTop (mkF m 251 #[.val (.int i1), .val (.int i2), .val (.int i3), .val (.int i4), .val (.int i5), .val (.int s1), .val (.int s2), .val (.int r3), .val (.int r4), .val (.int r5), .val (.int r6), .val (.int r7), .val (.int r8), .val (.int r9), .val (.int r10), .val (.ref a11), .val (.ref c37), .val (.int r9), .val (.int r10), .val (.int r7), .val (.int r8)] [(.int r10), (.int r10)]))
    refine OwnDone.go (A := (T42.setTop (mkF m 254 #[.val (.int i1), .val (.int i2), .val (.int i3), .val (.int i4), .val (.int i5), .val (.int s1), .val (.int s2), .val (.int r3), .val (.int r4), .val (.int r5), .val (.int r6), .val (.int r7), .val (.int r8), .val (.int r9), .val (.int r10), .val (.ref a11), .val (.ref c37), .val (.int r9), .val (.int r10), .val (.int r7), .val (.int r8)] []))) (fun tQ kQ => XS.icmpNo P42.here hx rfl (hb hby at_251) rfl (XT.ii_ne_f rfl) kQ) ?_
    show OwnDone p e below _ (T42.setTop (mkF m 254 #[.val (.int i1), .val (.int i2), .val (.int i3), .val (.int i4), .val (.int i5), .val (.int s1), .val (.int s2), .val (.int r3), .val (.int r4), .val (.int r5), .val (.int r6), .val (.int r7), .val (.int r8), .val (.int r9), .val (.int r10), .val (.ref a11), .val (.ref c37), .val (.int r9), .val (.int r10), .val (.int r7), .val (.int r8)] []))
    refine OwnDone.go (A := (T42.setTop (mkF m 257 #[.val (.int i1), .val (.int i2), .val (.int i3), .val (.int i4), .val (.int i5), .val (.int s1), .val (.int s2), .val (.int r3), .val (.int r4), .val (.int r5), .val (.int r6), .val (.int r7), .val (.int r8), .val (.int r9), .val (.int r10), .val (.ref a11), .val (.ref c37), .val (.int r9), .val (.int r10), .val (.int r7), .val (.int r8)] [(.int (1 : Int32)), (.ref c37)]))) (fun tQ kQ => ?_) ?_
    · refine XS.aload P42.here hx rfl (hb hby at_254) rfl rfl ?_
      show Steps p.tables e below (T42.setTop (mkF m 256 #[.val (.int i1), .val (.int i2), .val (.int i3), .val (.int i4), .val (.int i5), .val (.int s1), .val (.int s2), .val (.int r3), .val (.int r4), .val (.int r5), .val (.int r6), .val (.int r7), .val (.int r8), .val (.int r9), .val (.int r10), .val (.ref a11), .val (.ref c37), .val (.int r9), .val (.int r10), .val (.int r7), .val (.int r8)] [(.ref c37)])) _
      refine XS.iconst P42.here hx rfl (hb hby at_256) ?_
      show Steps p.tables e below (T42.setTop (mkF m 257 #[.val (.int i1), .val (.int i2), .val (.int i3), .val (.int i4), .val (.int i5), .val (.int s1), .val (.int s2), .val (.int r3), .val (.int r4), .val (.int r5), .val (.int r6), .val (.int r7), .val (.int r8), .val (.int r9), .val (.int r10), .val (.ref a11), .val (.ref c37), .val (.int r9), .val (.int r10), .val (.int r7), .val (.int r8)] [(.int (1 : Int32)), (.ref c37)])) _
      exact kQ
    show OwnDone p e below _ (T42.setTop (mkF m 257 #[.val (.int i1), .val (.int i2), .val (.int i3), .val (.int i4), .val (.int i5), .val (.int s1), .val (.int s2), .val (.int r3), .val (.int r4), .val (.int r5), .val (.int r6), .val (.int r7), .val (.int r8), .val (.int r9), .val (.int r10), .val (.ref a11), .val (.ref c37), .val (.int r9), .val (.int r10), .val (.int r7), .val (.int r8)] [(.int (1 : Int32)), (.ref c37)]))
    refine own_callV (y := (⟨"com/example/bounded_array/boundedarray/regex/CodePointSet", "first", "(I)I"⟩ : MethodName)) (z := (⟨"com/example/bounded_array/boundedarray/regex/CodePointSet", "first", "(I)I"⟩ : MethodName)) (CC := "com/example/bounded_array/boundedarray/regex/CodePointSet") C P42 O37.1 (hw _ (List.mem_of_getElem? (i := 184) rfl)) (hw _ (List.mem_of_getElem? (i := 185) rfl)) (hw _ (List.mem_of_getElem? (i := 187) rfl)) (hw _ (List.mem_of_getElem? (i := 187) rfl)) (hw _ (List.mem_of_getElem? (i := 186) rfl)) (hw _ (List.mem_of_getElem? (i := 145) rfl)) (hw _ (List.mem_of_getElem? (i := 188) rfl)) (by decide) (rmfs41 l Z a0 hw c37 ra37 k37 hs37 lo37 hi37 r9 r10 r7 r8 h37 P42.old O37 Y37) (as := [(.int (1 : Int32))]) (rest := []) pd_21 rfl rfl (wd := 0) rfl rfl at_257 all0 (by decide) (by decide) (by decide) (by decide) (fun T43 h43 v43 P43 K43 hQ43 => ?_)
    obtain ⟨rfl, rfl⟩ := hQ43
    show OwnDone p e below _ (T43.setTop (mkF m 260 #[.val (.int i1), .val (.int i2), .val (.int i3), .val (.int i4), .val (.int i5), .val (.int s1), .val (.int s2), .val (.int r3), .val (.int r4), .val (.int r5), .val (.int r6), .val (.int r7), .val (.int r8), .val (.int r9), .val (.int r10), .val (.ref a11), .val (.ref c37), .val (.int r9), .val (.int r10), .val (.int r7), .val (.int r8)] [(.int r7)]))
    refine OwnDone.go (A := (T43.setTop (mkF m 262 #[.val (.int i1), .val (.int i2), .val (.int i3), .val (.int i4), .val (.int i5), .val (.int s1), .val (.int s2), .val (.int r3), .val (.int r4), .val (.int r5), .val (.int r6), .val (.int r7), .val (.int r8), .val (.int r9), .val (.int r10), .val (.ref a11), .val (.ref c37), .val (.int r9), .val (.int r10), .val (.int r7), .val (.int r8)] [(.int r7), (.int r7)]))) (fun tQ kQ => ?_) ?_
    · refine XS.iload P43.here hx rfl (hb hby at_260) rfl ?_
      show Steps p.tables e below (T43.setTop (mkF m 262 #[.val (.int i1), .val (.int i2), .val (.int i3), .val (.int i4), .val (.int i5), .val (.int s1), .val (.int s2), .val (.int r3), .val (.int r4), .val (.int r5), .val (.int r6), .val (.int r7), .val (.int r8), .val (.int r9), .val (.int r10), .val (.ref a11), .val (.ref c37), .val (.int r9), .val (.int r10), .val (.int r7), .val (.int r8)] [(.int r7), (.int r7)])) _
      exact kQ
    show OwnDone p e below _ (T43.setTop (mkF m 262 #[.val (.int i1), .val (.int i2), .val (.int i3), .val (.int i4), .val (.int i5), .val (.int s1), .val (.int s2), .val (.int r3), .val (.int r4), .val (.int r5), .val (.int r6), .val (.int r7), .val (.int r8), .val (.int r9), .val (.int r10), .val (.ref a11), .val (.ref c37), .val (.int r9), .val (.int r10), .val (.int r7), .val (.int r8)] [(.int r7), (.int r7)]))
    refine OwnDone.go (A := (T43.setTop (mkF m 265 #[.val (.int i1), .val (.int i2), .val (.int i3), .val (.int i4), .val (.int i5), .val (.int s1), .val (.int s2), .val (.int r3), .val (.int r4), .val (.int r5), .val (.int r6), .val (.int r7), .val (.int r8), .val (.int r9), .val (.int r10), .val (.ref a11), .val (.ref c37), .val (.int r9), .val (.int r10), .val (.int r7), .val (.int r8)] []))) (fun tQ kQ => XS.icmpNo P43.here hx rfl (hb hby at_262) rfl (XT.ii_ne_f rfl) kQ) ?_
    show OwnDone p e below _ (T43.setTop (mkF m 265 #[.val (.int i1), .val (.int i2), .val (.int i3), .val (.int i4), .val (.int i5), .val (.int s1), .val (.int s2), .val (.int r3), .val (.int r4), .val (.int r5), .val (.int r6), .val (.int r7), .val (.int r8), .val (.int r9), .val (.int r10), .val (.ref a11), .val (.ref c37), .val (.int r9), .val (.int r10), .val (.int r7), .val (.int r8)] []))
    refine OwnDone.go (A := (T43.setTop (mkF m 268 #[.val (.int i1), .val (.int i2), .val (.int i3), .val (.int i4), .val (.int i5), .val (.int s1), .val (.int s2), .val (.int r3), .val (.int r4), .val (.int r5), .val (.int r6), .val (.int r7), .val (.int r8), .val (.int r9), .val (.int r10), .val (.ref a11), .val (.ref c37), .val (.int r9), .val (.int r10), .val (.int r7), .val (.int r8)] [(.int (1 : Int32)), (.ref c37)]))) (fun tQ kQ => ?_) ?_
    · refine XS.aload P43.here hx rfl (hb hby at_265) rfl rfl ?_
      show Steps p.tables e below (T43.setTop (mkF m 267 #[.val (.int i1), .val (.int i2), .val (.int i3), .val (.int i4), .val (.int i5), .val (.int s1), .val (.int s2), .val (.int r3), .val (.int r4), .val (.int r5), .val (.int r6), .val (.int r7), .val (.int r8), .val (.int r9), .val (.int r10), .val (.ref a11), .val (.ref c37), .val (.int r9), .val (.int r10), .val (.int r7), .val (.int r8)] [(.ref c37)])) _
      refine XS.iconst P43.here hx rfl (hb hby at_267) ?_
      show Steps p.tables e below (T43.setTop (mkF m 268 #[.val (.int i1), .val (.int i2), .val (.int i3), .val (.int i4), .val (.int i5), .val (.int s1), .val (.int s2), .val (.int r3), .val (.int r4), .val (.int r5), .val (.int r6), .val (.int r7), .val (.int r8), .val (.int r9), .val (.int r10), .val (.ref a11), .val (.ref c37), .val (.int r9), .val (.int r10), .val (.int r7), .val (.int r8)] [(.int (1 : Int32)), (.ref c37)])) _
      exact kQ
    show OwnDone p e below _ (T43.setTop (mkF m 268 #[.val (.int i1), .val (.int i2), .val (.int i3), .val (.int i4), .val (.int i5), .val (.int s1), .val (.int s2), .val (.int r3), .val (.int r4), .val (.int r5), .val (.int r6), .val (.int r7), .val (.int r8), .val (.int r9), .val (.int r10), .val (.ref a11), .val (.ref c37), .val (.int r9), .val (.int r10), .val (.int r7), .val (.int r8)] [(.int (1 : Int32)), (.ref c37)]))
    refine own_callV (y := (⟨"com/example/bounded_array/boundedarray/regex/CodePointSet", "last", "(I)I"⟩ : MethodName)) (z := (⟨"com/example/bounded_array/boundedarray/regex/CodePointSet", "last", "(I)I"⟩ : MethodName)) (CC := "com/example/bounded_array/boundedarray/regex/CodePointSet") C P43 O37.1 (hw _ (List.mem_of_getElem? (i := 189) rfl)) (hw _ (List.mem_of_getElem? (i := 190) rfl)) (hw _ (List.mem_of_getElem? (i := 192) rfl)) (hw _ (List.mem_of_getElem? (i := 192) rfl)) (hw _ (List.mem_of_getElem? (i := 191) rfl)) (hw _ (List.mem_of_getElem? (i := 145) rfl)) (hw _ (List.mem_of_getElem? (i := 193) rfl)) (by decide) (rmls41 l Z a0 hw c37 ra37 k37 hs37 lo37 hi37 r9 r10 r7 r8 h37 P43.old O37 Y37) (as := [(.int (1 : Int32))]) (rest := []) pd_21 rfl rfl (wd := 0) rfl rfl at_268 all0 (by decide) (by decide) (by decide) (by decide) (fun T44 h44 v44 P44 K44 hQ44 => ?_)
    obtain ⟨rfl, rfl⟩ := hQ44
    show OwnDone p e below _ (T44.setTop (mkF m 271 #[.val (.int i1), .val (.int i2), .val (.int i3), .val (.int i4), .val (.int i5), .val (.int s1), .val (.int s2), .val (.int r3), .val (.int r4), .val (.int r5), .val (.int r6), .val (.int r7), .val (.int r8), .val (.int r9), .val (.int r10), .val (.ref a11), .val (.ref c37), .val (.int r9), .val (.int r10), .val (.int r7), .val (.int r8)] [(.int r8)]))
    refine OwnDone.go (A := (T44.setTop (mkF m 273 #[.val (.int i1), .val (.int i2), .val (.int i3), .val (.int i4), .val (.int i5), .val (.int s1), .val (.int s2), .val (.int r3), .val (.int r4), .val (.int r5), .val (.int r6), .val (.int r7), .val (.int r8), .val (.int r9), .val (.int r10), .val (.ref a11), .val (.ref c37), .val (.int r9), .val (.int r10), .val (.int r7), .val (.int r8)] [(.int r8), (.int r8)]))) (fun tQ kQ => ?_) ?_
    · refine XS.iload P44.here hx rfl (hb hby at_271) rfl ?_
      show Steps p.tables e below (T44.setTop (mkF m 273 #[.val (.int i1), .val (.int i2), .val (.int i3), .val (.int i4), .val (.int i5), .val (.int s1), .val (.int s2), .val (.int r3), .val (.int r4), .val (.int r5), .val (.int r6), .val (.int r7), .val (.int r8), .val (.int r9), .val (.int r10), .val (.ref a11), .val (.ref c37), .val (.int r9), .val (.int r10), .val (.int r7), .val (.int r8)] [(.int r8), (.int r8)])) _
      exact kQ
    show OwnDone p e below _ (T44.setTop (mkF m 273 #[.val (.int i1), .val (.int i2), .val (.int i3), .val (.int i4), .val (.int i5), .val (.int s1), .val (.int s2), .val (.int r3), .val (.int r4), .val (.int r5), .val (.int r6), .val (.int r7), .val (.int r8), .val (.int r9), .val (.int r10), .val (.ref a11), .val (.ref c37), .val (.int r9), .val (.int r10), .val (.int r7), .val (.int r8)] [(.int r8), (.int r8)]))
    refine OwnDone.go (A := (T44.setTop (mkF m 276 #[.val (.int i1), .val (.int i2), .val (.int i3), .val (.int i4), .val (.int i5), .val (.int s1), .val (.int s2), .val (.int r3), .val (.int r4), .val (.int r5), .val (.int r6), .val (.int r7), .val (.int r8), .val (.int r9), .val (.int r10), .val (.ref a11), .val (.ref c37), .val (.int r9), .val (.int r10), .val (.int r7), .val (.int r8)] []))) (fun tQ kQ => XS.icmpNo P44.here hx rfl (hb hby at_273) rfl (XT.ii_ne_f rfl) kQ) ?_
    show OwnDone p e below _ (T44.setTop (mkF m 276 #[.val (.int i1), .val (.int i2), .val (.int i3), .val (.int i4), .val (.int i5), .val (.int s1), .val (.int s2), .val (.int r3), .val (.int r4), .val (.int r5), .val (.int r6), .val (.int r7), .val (.int r8), .val (.int r9), .val (.int r10), .val (.ref a11), .val (.ref c37), .val (.int r9), .val (.int r10), .val (.int r7), .val (.int r8)] []))
    refine OwnDone.go (A := (T44.setTop (mkF m 281 #[.val (.int i1), .val (.int i2), .val (.int i3), .val (.int i4), .val (.int i5), .val (.int s1), .val (.int s2), .val (.int r3), .val (.int r4), .val (.int r5), .val (.int r6), .val (.int r7), .val (.int r8), .val (.int r9), .val (.int r10), .val (.ref a11), .val (.ref c37), .val (.int r9), .val (.int r10), .val (.int r7), .val (.int r8)] [(.int (1 : Int32))]))) (fun tQ kQ => ?_) ?_
    · refine XS.iconst P44.here hx rfl (hb hby at_276) ?_
      show Steps p.tables e below (T44.setTop (mkF m 277 #[.val (.int i1), .val (.int i2), .val (.int i3), .val (.int i4), .val (.int i5), .val (.int s1), .val (.int s2), .val (.int r3), .val (.int r4), .val (.int r5), .val (.int r6), .val (.int r7), .val (.int r8), .val (.int r9), .val (.int r10), .val (.ref a11), .val (.ref c37), .val (.int r9), .val (.int r10), .val (.int r7), .val (.int r8)] [(.int (1 : Int32))])) _
      refine XS.goto P44.here hx rfl (pc0 := 277) (pc' := 281) rfl (hb hby at_277) (by decide) (by decide) ?_
      show Steps p.tables e below (T44.setTop (mkF m 281 #[.val (.int i1), .val (.int i2), .val (.int i3), .val (.int i4), .val (.int i5), .val (.int s1), .val (.int s2), .val (.int r3), .val (.int r4), .val (.int r5), .val (.int r6), .val (.int r7), .val (.int r8), .val (.int r9), .val (.int r10), .val (.ref a11), .val (.ref c37), .val (.int r9), .val (.int r10), .val (.int r7), .val (.int r8)] [(.int (1 : Int32))])) _
      exact kQ
    show OwnDone p e below _ (T44.setTop (mkF m 281 #[.val (.int i1), .val (.int i2), .val (.int i3), .val (.int i4), .val (.int i5), .val (.int s1), .val (.int s2), .val (.int r3), .val (.int r4), .val (.int r5), .val (.int r6), .val (.int r7), .val (.int r8), .val (.int r9), .val (.int r10), .val (.ref a11), .val (.ref c37), .val (.int r9), .val (.int r10), .val (.int r7), .val (.int r8)] [(.int (1 : Int32))]))
    refine own_retN C P44 (by simp) (z' := (1 : Int32)) (by decide) at_281 (by decide) (by decide) rfl
  · show OwnDone p e below _ (T14.setTop (mkF m 125 #[.val (.int i1), .val (.int i2), .val (.int i3), .val (.int i4), .val (.int i5), .val (.int s1), .val (.int s2), .val (.int r3), .val (.int r4), .val (.int r5), .val (.int r6), .val (.int r7), .val (.int r8), .val (.int r9), .val (.int r10), .val (.ref a11), .unset, .unset, .unset, .unset, .unset] [(.ref a11)]))
    refine own_callV (y := (⟨"com/example/bounded_array/boundedarray/regex/CodePointSet$Builder", "build", "()Lcom/example/bounded_array/boundedarray/regex/CodePointSet;"⟩ : MethodName)) (z := (⟨"com/example/bounded_array/boundedarray/regex/CodePointSet$Builder", "build", "()Lcom/example/bounded_array/boundedarray/regex/CodePointSet;"⟩ : MethodName)) (CC := "com/example/bounded_array/boundedarray/regex/CodePointSet$Builder") C P14 O14.1 (hw _ (List.mem_of_getElem? (i := 122) rfl)) (hw _ (List.mem_of_getElem? (i := 123) rfl)) (hw _ (List.mem_of_getElem? (i := 125) rfl)) (hw _ (List.mem_of_getElem? (i := 125) rfl)) (hw _ (List.mem_of_getElem? (i := 124) rfl)) (hw _ (List.mem_of_getElem? (i := 15) rfl)) (hw _ (List.mem_of_getElem? (i := 126) rfl)) (by decide) (rmbm l Z a0 hw a11 b12 s12 k12 r7 r8 r9 r10 r9 r10 r7 r8 h14 P14.old O14 Y14 nb12 hp hs hm) (as := []) (rest := []) pd_19 rfl rfl (wd := 0) rfl rfl at_125 all0 (by decide) (by decide) (by decide) (by decide) (fun T45 h45 v45 P45 K45 hQ45 => ?_)
    obtain ⟨c45, ra45, k45, hs45, lo45, hi45, r45, rfl, O45, Y45, mx45⟩ := hQ45
    have O46_a11 := O14.keep K45 nin0
    have Y47_b12 := Y14.keep K45 nin0
    show OwnDone p e below _ (T45.setTop (mkF m 128 #[.val (.int i1), .val (.int i2), .val (.int i3), .val (.int i4), .val (.int i5), .val (.int s1), .val (.int s2), .val (.int r3), .val (.int r4), .val (.int r5), .val (.int r6), .val (.int r7), .val (.int r8), .val (.int r9), .val (.int r10), .val (.ref a11), .unset, .unset, .unset, .unset, .unset] [(.ref c45)]))
    refine OwnDone.go (A := (T45.setTop (mkF m 134 #[.val (.int i1), .val (.int i2), .val (.int i3), .val (.int i4), .val (.int i5), .val (.int s1), .val (.int s2), .val (.int r3), .val (.int r4), .val (.int r5), .val (.int r6), .val (.int r7), .val (.int r8), .val (.int r9), .val (.int r10), .val (.ref a11), .val (.ref c45), .unset, .unset, .unset, .unset] [(.int r9), (.int r7)]))) (fun tQ kQ => ?_) ?_
    · refine XS.astore P45.here hx rfl (hb hby at_128) rfl rfl (l' := #[.val (.int i1), .val (.int i2), .val (.int i3), .val (.int i4), .val (.int i5), .val (.int s1), .val (.int s2), .val (.int r3), .val (.int r4), .val (.int r5), .val (.int r6), .val (.int r7), .val (.int r8), .val (.int r9), .val (.int r10), .val (.ref a11), .val (.ref c45), .unset, .unset, .unset, .unset]) rfl ?_
      show Steps p.tables e below (T45.setTop (mkF m 130 #[.val (.int i1), .val (.int i2), .val (.int i3), .val (.int i4), .val (.int i5), .val (.int s1), .val (.int s2), .val (.int r3), .val (.int r4), .val (.int r5), .val (.int r6), .val (.int r7), .val (.int r8), .val (.int r9), .val (.int r10), .val (.ref a11), .val (.ref c45), .unset, .unset, .unset, .unset] [])) _
      refine XS.iload P45.here hx rfl (hb hby at_130) rfl ?_
      show Steps p.tables e below (T45.setTop (mkF m 132 #[.val (.int i1), .val (.int i2), .val (.int i3), .val (.int i4), .val (.int i5), .val (.int s1), .val (.int s2), .val (.int r3), .val (.int r4), .val (.int r5), .val (.int r6), .val (.int r7), .val (.int r8), .val (.int r9), .val (.int r10), .val (.ref a11), .val (.ref c45), .unset, .unset, .unset, .unset] [(.int r7)])) _
      refine XS.iload P45.here hx rfl (hb hby at_132) rfl ?_
      show Steps p.tables e below (T45.setTop (mkF m 134 #[.val (.int i1), .val (.int i2), .val (.int i3), .val (.int i4), .val (.int i5), .val (.int s1), .val (.int s2), .val (.int r3), .val (.int r4), .val (.int r5), .val (.int r6), .val (.int r7), .val (.int r8), .val (.int r9), .val (.int r10), .val (.ref a11), .val (.ref c45), .unset, .unset, .unset, .unset] [(.int r9), (.int r7)])) _
      exact kQ
    show OwnDone p e below _ (T45.setTop (mkF m 134 #[.val (.int i1), .val (.int i2), .val (.int i3), .val (.int i4), .val (.int i5), .val (.int s1), .val (.int s2), .val (.int r3), .val (.int r4), .val (.int r5), .val (.int r6), .val (.int r7), .val (.int r8), .val (.int r9), .val (.int r10), .val (.ref a11), .val (.ref c45), .unset, .unset, .unset, .unset] [(.int r9), (.int r7)]))
    refine OwnDone.go (A := (T45.setTop (mkF m 137 #[.val (.int i1), .val (.int i2), .val (.int i3), .val (.int i4), .val (.int i5), .val (.int s1), .val (.int s2), .val (.int r3), .val (.int r4), .val (.int r5), .val (.int r6), .val (.int r7), .val (.int r8), .val (.int r9), .val (.int r10), .val (.ref a11), .val (.ref c45), .unset, .unset, .unset, .unset] []))) (fun tQ kQ => XS.icmpNo P45.here hx rfl (hb hby at_134) rfl (XT.ii_gt_f hA) kQ) ?_
    show OwnDone p e below _ (T45.setTop (mkF m 137 #[.val (.int i1), .val (.int i2), .val (.int i3), .val (.int i4), .val (.int i5), .val (.int s1), .val (.int s2), .val (.int r3), .val (.int r4), .val (.int r5), .val (.int r6), .val (.int r7), .val (.int r8), .val (.int r9), .val (.int r10), .val (.ref a11), .val (.ref c45), .unset, .unset, .unset, .unset] []))
    refine OwnDone.go (A := (T45.setTop (mkF m 178 #[.val (.int i1), .val (.int i2), .val (.int i3), .val (.int i4), .val (.int i5), .val (.int s1), .val (.int s2), .val (.int r3), .val (.int r4), .val (.int r5), .val (.int r6), .val (.int r7), .val (.int r8), .val (.int r9), .val (.int r10), .val (.ref a11), .val (.ref c45), .val (.int r7), .val (.int r8), .val (.int r9), .val (.int r10)] [(.int (r8 + (1 : Int32))), (.int r9)]))) (fun tQ kQ => ?_) ?_
    · refine XS.iload P45.here hx rfl (hb hby at_137) rfl ?_
      show Steps p.tables e below (T45.setTop (mkF m 139 #[.val (.int i1), .val (.int i2), .val (.int i3), .val (.int i4), .val (.int i5), .val (.int s1), .val (.int s2), .val (.int r3), .val (.int r4), .val (.int r5), .val (.int r6), .val (.int r7), .val (.int r8), .val (.int r9), .val (.int r10), .val (.ref a11), .val (.ref c45), .unset, .unset, .unset, .unset] [(.int r7)])) _
      refine XS.istore P45.here hx rfl (hb hby at_139) rfl (l' := #[.val (.int i1), .val (.int i2), .val (.int i3), .val (.int i4), .val (.int i5), .val (.int s1), .val (.int s2), .val (.int r3), .val (.int r4), .val (.int r5), .val (.int r6), .val (.int r7), .val (.int r8), .val (.int r9), .val (.int r10), .val (.ref a11), .val (.ref c45), .val (.int r7), .unset, .unset, .unset]) rfl ?_
      show Steps p.tables e below (T45.setTop (mkF m 141 #[.val (.int i1), .val (.int i2), .val (.int i3), .val (.int i4), .val (.int i5), .val (.int s1), .val (.int s2), .val (.int r3), .val (.int r4), .val (.int r5), .val (.int r6), .val (.int r7), .val (.int r8), .val (.int r9), .val (.int r10), .val (.ref a11), .val (.ref c45), .val (.int r7), .unset, .unset, .unset] [])) _
      refine XS.iload P45.here hx rfl (hb hby at_141) rfl ?_
      show Steps p.tables e below (T45.setTop (mkF m 143 #[.val (.int i1), .val (.int i2), .val (.int i3), .val (.int i4), .val (.int i5), .val (.int s1), .val (.int s2), .val (.int r3), .val (.int r4), .val (.int r5), .val (.int r6), .val (.int r7), .val (.int r8), .val (.int r9), .val (.int r10), .val (.ref a11), .val (.ref c45), .val (.int r7), .unset, .unset, .unset] [(.int r8)])) _
      refine XS.istore P45.here hx rfl (hb hby at_143) rfl (l' := #[.val (.int i1), .val (.int i2), .val (.int i3), .val (.int i4), .val (.int i5), .val (.int s1), .val (.int s2), .val (.int r3), .val (.int r4), .val (.int r5), .val (.int r6), .val (.int r7), .val (.int r8), .val (.int r9), .val (.int r10), .val (.ref a11), .val (.ref c45), .val (.int r7), .val (.int r8), .unset, .unset]) rfl ?_
      show Steps p.tables e below (T45.setTop (mkF m 145 #[.val (.int i1), .val (.int i2), .val (.int i3), .val (.int i4), .val (.int i5), .val (.int s1), .val (.int s2), .val (.int r3), .val (.int r4), .val (.int r5), .val (.int r6), .val (.int r7), .val (.int r8), .val (.int r9), .val (.int r10), .val (.ref a11), .val (.ref c45), .val (.int r7), .val (.int r8), .unset, .unset] [])) _
      refine XS.iload P45.here hx rfl (hb hby at_145) rfl ?_
      show Steps p.tables e below (T45.setTop (mkF m 147 #[.val (.int i1), .val (.int i2), .val (.int i3), .val (.int i4), .val (.int i5), .val (.int s1), .val (.int s2), .val (.int r3), .val (.int r4), .val (.int r5), .val (.int r6), .val (.int r7), .val (.int r8), .val (.int r9), .val (.int r10), .val (.ref a11), .val (.ref c45), .val (.int r7), .val (.int r8), .unset, .unset] [(.int r9)])) _
      refine XS.istore P45.here hx rfl (hb hby at_147) rfl (l' := #[.val (.int i1), .val (.int i2), .val (.int i3), .val (.int i4), .val (.int i5), .val (.int s1), .val (.int s2), .val (.int r3), .val (.int r4), .val (.int r5), .val (.int r6), .val (.int r7), .val (.int r8), .val (.int r9), .val (.int r10), .val (.ref a11), .val (.ref c45), .val (.int r7), .val (.int r8), .val (.int r9), .unset]) rfl ?_
      show Steps p.tables e below (T45.setTop (mkF m 149 #[.val (.int i1), .val (.int i2), .val (.int i3), .val (.int i4), .val (.int i5), .val (.int s1), .val (.int s2), .val (.int r3), .val (.int r4), .val (.int r5), .val (.int r6), .val (.int r7), .val (.int r8), .val (.int r9), .val (.int r10), .val (.ref a11), .val (.ref c45), .val (.int r7), .val (.int r8), .val (.int r9), .unset] [])) _
      refine XS.iload P45.here hx rfl (hb hby at_149) rfl ?_
      show Steps p.tables e below (T45.setTop (mkF m 151 #[.val (.int i1), .val (.int i2), .val (.int i3), .val (.int i4), .val (.int i5), .val (.int s1), .val (.int s2), .val (.int r3), .val (.int r4), .val (.int r5), .val (.int r6), .val (.int r7), .val (.int r8), .val (.int r9), .val (.int r10), .val (.ref a11), .val (.ref c45), .val (.int r7), .val (.int r8), .val (.int r9), .unset] [(.int r10)])) _
      refine XS.istore P45.here hx rfl (hb hby at_151) rfl (l' := #[.val (.int i1), .val (.int i2), .val (.int i3), .val (.int i4), .val (.int i5), .val (.int s1), .val (.int s2), .val (.int r3), .val (.int r4), .val (.int r5), .val (.int r6), .val (.int r7), .val (.int r8), .val (.int r9), .val (.int r10), .val (.ref a11), .val (.ref c45), .val (.int r7), .val (.int r8), .val (.int r9), .val (.int r10)]) rfl ?_
      show Steps p.tables e below (T45.setTop (mkF m 153 #[.val (.int i1), .val (.int i2), .val (.int i3), .val (.int i4), .val (.int i5), .val (.int s1), .val (.int s2), .val (.int r3), .val (.int r4), .val (.int r5), .val (.int r6), .val (.int r7), .val (.int r8), .val (.int r9), .val (.int r10), .val (.ref a11), .val (.ref c45), .val (.int r7), .val (.int r8), .val (.int r9), .val (.int r10)] [])) _
      refine XS.goto P45.here hx rfl (pc0 := 153) (pc' := 172) rfl (hb hby at_153) (by decide) (by decide) ?_
      show Steps p.tables e below (T45.setTop (mkF m 172 #[.val (.int i1), .val (.int i2), .val (.int i3), .val (.int i4), .val (.int i5), .val (.int s1), .val (.int s2), .val (.int r3), .val (.int r4), .val (.int r5), .val (.int r6), .val (.int r7), .val (.int r8), .val (.int r9), .val (.int r10), .val (.ref a11), .val (.ref c45), .val (.int r7), .val (.int r8), .val (.int r9), .val (.int r10)] [])) _
      refine XS.iload P45.here hx rfl (hb hby at_172) rfl ?_
      show Steps p.tables e below (T45.setTop (mkF m 174 #[.val (.int i1), .val (.int i2), .val (.int i3), .val (.int i4), .val (.int i5), .val (.int s1), .val (.int s2), .val (.int r3), .val (.int r4), .val (.int r5), .val (.int r6), .val (.int r7), .val (.int r8), .val (.int r9), .val (.int r10), .val (.ref a11), .val (.ref c45), .val (.int r7), .val (.int r8), .val (.int r9), .val (.int r10)] [(.int r9)])) _
      refine XS.iload P45.here hx rfl (hb hby at_174) rfl ?_
      show Steps p.tables e below (T45.setTop (mkF m 176 #[.val (.int i1), .val (.int i2), .val (.int i3), .val (.int i4), .val (.int i5), .val (.int s1), .val (.int s2), .val (.int r3), .val (.int r4), .val (.int r5), .val (.int r6), .val (.int r7), .val (.int r8), .val (.int r9), .val (.int r10), .val (.ref a11), .val (.ref c45), .val (.int r7), .val (.int r8), .val (.int r9), .val (.int r10)] [(.int r8), (.int r9)])) _
      refine XS.iconst P45.here hx rfl (hb hby at_176) ?_
      show Steps p.tables e below (T45.setTop (mkF m 177 #[.val (.int i1), .val (.int i2), .val (.int i3), .val (.int i4), .val (.int i5), .val (.int s1), .val (.int s2), .val (.int r3), .val (.int r4), .val (.int r5), .val (.int r6), .val (.int r7), .val (.int r8), .val (.int r9), .val (.int r10), .val (.ref a11), .val (.ref c45), .val (.int r7), .val (.int r8), .val (.int r9), .val (.int r10)] [(.int (1 : Int32)), (.int r8), (.int r9)])) _
      refine XS.iadd P45.here hx rfl (hb hby at_177) rfl ?_
      show Steps p.tables e below (T45.setTop (mkF m 178 #[.val (.int i1), .val (.int i2), .val (.int i3), .val (.int i4), .val (.int i5), .val (.int s1), .val (.int s2), .val (.int r3), .val (.int r4), .val (.int r5), .val (.int r6), .val (.int r7), .val (.int r8), .val (.int r9), .val (.int r10), .val (.ref a11), .val (.ref c45), .val (.int r7), .val (.int r8), .val (.int r9), .val (.int r10)] [(.int (r8 + (1 : Int32))), (.int r9)])) _
      exact kQ
    show OwnDone p e below _ (T45.setTop (mkF m 178 #[.val (.int i1), .val (.int i2), .val (.int i3), .val (.int i4), .val (.int i5), .val (.int s1), .val (.int s2), .val (.int r3), .val (.int r4), .val (.int r5), .val (.int r6), .val (.int r7), .val (.int r8), .val (.int r9), .val (.int r10), .val (.ref a11), .val (.ref c45), .val (.int r7), .val (.int r8), .val (.int r9), .val (.int r10)] [(.int (r8 + (1 : Int32))), (.int r9)]))
    refine OwnDone.go (A := (T45.setTop (mkF m 181 #[.val (.int i1), .val (.int i2), .val (.int i3), .val (.int i4), .val (.int i5), .val (.int s1), .val (.int s2), .val (.int r3), .val (.int r4), .val (.int r5), .val (.int r6), .val (.int r7), .val (.int r8), .val (.int r9), .val (.int r10), .val (.ref a11), .val (.ref c45), .val (.int r7), .val (.int r8), .val (.int r9), .val (.int r10)] []))) (fun tQ kQ => XS.icmpNo P45.here hx rfl (hb hby at_178) rfl (XT.ii_gt_f hm2) kQ) ?_
    show OwnDone p e below _ (T45.setTop (mkF m 181 #[.val (.int i1), .val (.int i2), .val (.int i3), .val (.int i4), .val (.int i5), .val (.int s1), .val (.int s2), .val (.int r3), .val (.int r4), .val (.int r5), .val (.int r6), .val (.int r7), .val (.int r8), .val (.int r9), .val (.int r10), .val (.ref a11), .val (.ref c45), .val (.int r7), .val (.int r8), .val (.int r9), .val (.int r10)] []))
    refine OwnDone.go (A := (T45.setTop (mkF m 183 #[.val (.int i1), .val (.int i2), .val (.int i3), .val (.int i4), .val (.int i5), .val (.int s1), .val (.int s2), .val (.int r3), .val (.int r4), .val (.int r5), .val (.int r6), .val (.int r7), .val (.int r8), .val (.int r9), .val (.int r10), .val (.ref a11), .val (.ref c45), .val (.int r7), .val (.int r8), .val (.int r9), .val (.int r10)] [(.ref c45)]))) (fun tQ kQ => ?_) ?_
    · refine XS.aload P45.here hx rfl (hb hby at_181) rfl rfl ?_
      show Steps p.tables e below (T45.setTop (mkF m 183 #[.val (.int i1), .val (.int i2), .val (.int i3), .val (.int i4), .val (.int i5), .val (.int s1), .val (.int s2), .val (.int r3), .val (.int r4), .val (.int r5), .val (.int r6), .val (.int r7), .val (.int r8), .val (.int r9), .val (.int r10), .val (.ref a11), .val (.ref c45), .val (.int r7), .val (.int r8), .val (.int r9), .val (.int r10)] [(.ref c45)])) _
      exact kQ
    show OwnDone p e below _ (T45.setTop (mkF m 183 #[.val (.int i1), .val (.int i2), .val (.int i3), .val (.int i4), .val (.int i5), .val (.int s1), .val (.int s2), .val (.int r3), .val (.int r4), .val (.int r5), .val (.int r6), .val (.int r7), .val (.int r8), .val (.int r9), .val (.int r10), .val (.ref a11), .val (.ref c45), .val (.int r7), .val (.int r8), .val (.int r9), .val (.int r10)] [(.ref c45)]))
    refine own_callV (y := (⟨"com/example/bounded_array/boundedarray/regex/CodePointSet", "ranges", "()I"⟩ : MethodName)) (z := (⟨"com/example/bounded_array/boundedarray/regex/CodePointSet", "ranges", "()I"⟩ : MethodName)) (CC := "com/example/bounded_array/boundedarray/regex/CodePointSet") C P45 O45.1 (hw _ (List.mem_of_getElem? (i := 179) rfl)) (hw _ (List.mem_of_getElem? (i := 180) rfl)) (hw _ (List.mem_of_getElem? (i := 182) rfl)) (hw _ (List.mem_of_getElem? (i := 182) rfl)) (hw _ (List.mem_of_getElem? (i := 181) rfl)) (hw _ (List.mem_of_getElem? (i := 145) rfl)) (hw _ (List.mem_of_getElem? (i := 183) rfl)) (by decide) (rmrg2 l Z a0 hw c45 ra45 k45 hs45 lo45 hi45 r9 r45 h45 P45.old O45 Y45) (as := []) (rest := []) pd_20 rfl rfl (wd := 0) rfl rfl at_183 all0 (by decide) (by decide) (by decide) (by decide) (fun T48 h48 v48 P48 K48 hQ48 => ?_)
    obtain ⟨rfl, rfl⟩ := hQ48
    show OwnDone p e below _ (T48.setTop (mkF m 186 #[.val (.int i1), .val (.int i2), .val (.int i3), .val (.int i4), .val (.int i5), .val (.int s1), .val (.int s2), .val (.int r3), .val (.int r4), .val (.int r5), .val (.int r6), .val (.int r7), .val (.int r8), .val (.int r9), .val (.int r10), .val (.ref a11), .val (.ref c45), .val (.int r7), .val (.int r8), .val (.int r9), .val (.int r10)] [(.int (1 : Int32))]))
    refine OwnDone.go (A := (T48.setTop (mkF m 187 #[.val (.int i1), .val (.int i2), .val (.int i3), .val (.int i4), .val (.int i5), .val (.int s1), .val (.int s2), .val (.int r3), .val (.int r4), .val (.int r5), .val (.int r6), .val (.int r7), .val (.int r8), .val (.int r9), .val (.int r10), .val (.ref a11), .val (.ref c45), .val (.int r7), .val (.int r8), .val (.int r9), .val (.int r10)] [(.int (1 : Int32)), (.int (1 : Int32))]))) (fun tQ kQ => ?_) ?_
    · refine XS.iconst P48.here hx rfl (hb hby at_186) ?_
      show Steps p.tables e below (T48.setTop (mkF m 187 #[.val (.int i1), .val (.int i2), .val (.int i3), .val (.int i4), .val (.int i5), .val (.int s1), .val (.int s2), .val (.int r3), .val (.int r4), .val (.int r5), .val (.int r6), .val (.int r7), .val (.int r8), .val (.int r9), .val (.int r10), .val (.ref a11), .val (.ref c45), .val (.int r7), .val (.int r8), .val (.int r9), .val (.int r10)] [(.int (1 : Int32)), (.int (1 : Int32))])) _
      exact kQ
    show OwnDone p e below _ (T48.setTop (mkF m 187 #[.val (.int i1), .val (.int i2), .val (.int i3), .val (.int i4), .val (.int i5), .val (.int s1), .val (.int s2), .val (.int r3), .val (.int r4), .val (.int r5), .val (.int r6), .val (.int r7), .val (.int r8), .val (.int r9), .val (.int r10), .val (.ref a11), .val (.ref c45), .val (.int r7), .val (.int r8), .val (.int r9), .val (.int r10)] [(.int (1 : Int32)), (.int (1 : Int32))]))
    refine OwnDone.go (A := (T48.setTop (mkF m 190 #[.val (.int i1), .val (.int i2), .val (.int i3), .val (.int i4), .val (.int i5), .val (.int s1), .val (.int s2), .val (.int r3), .val (.int r4), .val (.int r5), .val (.int r6), .val (.int r7), .val (.int r8), .val (.int r9), .val (.int r10), .val (.ref a11), .val (.ref c45), .val (.int r7), .val (.int r8), .val (.int r9), .val (.int r10)] []))) (fun tQ kQ => XS.icmpNo P48.here hx rfl (hb hby at_187) rfl (XT.ii_ne_f rfl) kQ) ?_
    show OwnDone p e below _ (T48.setTop (mkF m 190 #[.val (.int i1), .val (.int i2), .val (.int i3), .val (.int i4), .val (.int i5), .val (.int s1), .val (.int s2), .val (.int r3), .val (.int r4), .val (.int r5), .val (.int r6), .val (.int r7), .val (.int r8), .val (.int r9), .val (.int r10), .val (.ref a11), .val (.ref c45), .val (.int r7), .val (.int r8), .val (.int r9), .val (.int r10)] []))
    refine OwnDone.go (A := (T48.setTop (mkF m 193 #[.val (.int i1), .val (.int i2), .val (.int i3), .val (.int i4), .val (.int i5), .val (.int s1), .val (.int s2), .val (.int r3), .val (.int r4), .val (.int r5), .val (.int r6), .val (.int r7), .val (.int r8), .val (.int r9), .val (.int r10), .val (.ref a11), .val (.ref c45), .val (.int r7), .val (.int r8), .val (.int r9), .val (.int r10)] [(.int (0 : Int32)), (.ref c45)]))) (fun tQ kQ => ?_) ?_
    · refine XS.aload P48.here hx rfl (hb hby at_190) rfl rfl ?_
      show Steps p.tables e below (T48.setTop (mkF m 192 #[.val (.int i1), .val (.int i2), .val (.int i3), .val (.int i4), .val (.int i5), .val (.int s1), .val (.int s2), .val (.int r3), .val (.int r4), .val (.int r5), .val (.int r6), .val (.int r7), .val (.int r8), .val (.int r9), .val (.int r10), .val (.ref a11), .val (.ref c45), .val (.int r7), .val (.int r8), .val (.int r9), .val (.int r10)] [(.ref c45)])) _
      refine XS.iconst P48.here hx rfl (hb hby at_192) ?_
      show Steps p.tables e below (T48.setTop (mkF m 193 #[.val (.int i1), .val (.int i2), .val (.int i3), .val (.int i4), .val (.int i5), .val (.int s1), .val (.int s2), .val (.int r3), .val (.int r4), .val (.int r5), .val (.int r6), .val (.int r7), .val (.int r8), .val (.int r9), .val (.int r10), .val (.ref a11), .val (.ref c45), .val (.int r7), .val (.int r8), .val (.int r9), .val (.int r10)] [(.int (0 : Int32)), (.ref c45)])) _
      exact kQ
    show OwnDone p e below _ (T48.setTop (mkF m 193 #[.val (.int i1), .val (.int i2), .val (.int i3), .val (.int i4), .val (.int i5), .val (.int s1), .val (.int s2), .val (.int r3), .val (.int r4), .val (.int r5), .val (.int r6), .val (.int r7), .val (.int r8), .val (.int r9), .val (.int r10), .val (.ref a11), .val (.ref c45), .val (.int r7), .val (.int r8), .val (.int r9), .val (.int r10)] [(.int (0 : Int32)), (.ref c45)]))
    refine own_callV (y := (⟨"com/example/bounded_array/boundedarray/regex/CodePointSet", "first", "(I)I"⟩ : MethodName)) (z := (⟨"com/example/bounded_array/boundedarray/regex/CodePointSet", "first", "(I)I"⟩ : MethodName)) (CC := "com/example/bounded_array/boundedarray/regex/CodePointSet") C P48 O45.1 (hw _ (List.mem_of_getElem? (i := 184) rfl)) (hw _ (List.mem_of_getElem? (i := 185) rfl)) (hw _ (List.mem_of_getElem? (i := 187) rfl)) (hw _ (List.mem_of_getElem? (i := 187) rfl)) (hw _ (List.mem_of_getElem? (i := 186) rfl)) (hw _ (List.mem_of_getElem? (i := 145) rfl)) (hw _ (List.mem_of_getElem? (i := 188) rfl)) (by decide) (rmfs20 l Z a0 hw c45 ra45 k45 hs45 lo45 hi45 r9 r45 h45 P48.old O45 Y45) (as := [(.int (0 : Int32))]) (rest := []) pd_21 rfl rfl (wd := 0) rfl rfl at_193 all0 (by decide) (by decide) (by decide) (by decide) (fun T49 h49 v49 P49 K49 hQ49 => ?_)
    obtain ⟨rfl, rfl⟩ := hQ49
    show OwnDone p e below _ (T49.setTop (mkF m 196 #[.val (.int i1), .val (.int i2), .val (.int i3), .val (.int i4), .val (.int i5), .val (.int s1), .val (.int s2), .val (.int r3), .val (.int r4), .val (.int r5), .val (.int r6), .val (.int r7), .val (.int r8), .val (.int r9), .val (.int r10), .val (.ref a11), .val (.ref c45), .val (.int r7), .val (.int r8), .val (.int r9), .val (.int r10)] [(.int r9)]))
    refine OwnDone.go (A := (T49.setTop (mkF m 198 #[.val (.int i1), .val (.int i2), .val (.int i3), .val (.int i4), .val (.int i5), .val (.int s1), .val (.int s2), .val (.int r3), .val (.int r4), .val (.int r5), .val (.int r6), .val (.int r7), .val (.int r8), .val (.int r9), .val (.int r10), .val (.ref a11), .val (.ref c45), .val (.int r7), .val (.int r8), .val (.int r9), .val (.int r10)] [(.int r7), (.int r9)]))) (fun tQ kQ => ?_) ?_
    · refine XS.iload P49.here hx rfl (hb hby at_196) rfl ?_
      show Steps p.tables e below (T49.setTop (mkF m 198 #[.val (.int i1), .val (.int i2), .val (.int i3), .val (.int i4), .val (.int i5), .val (.int s1), .val (.int s2), .val (.int r3), .val (.int r4), .val (.int r5), .val (.int r6), .val (.int r7), .val (.int r8), .val (.int r9), .val (.int r10), .val (.ref a11), .val (.ref c45), .val (.int r7), .val (.int r8), .val (.int r9), .val (.int r10)] [(.int r7), (.int r9)])) _
      exact kQ
    show OwnDone p e below _ (T49.setTop (mkF m 198 #[.val (.int i1), .val (.int i2), .val (.int i3), .val (.int i4), .val (.int i5), .val (.int s1), .val (.int s2), .val (.int r3), .val (.int r4), .val (.int r5), .val (.int r6), .val (.int r7), .val (.int r8), .val (.int r9), .val (.int r10), .val (.ref a11), .val (.ref c45), .val (.int r7), .val (.int r8), .val (.int r9), .val (.int r10)] [(.int r7), (.int r9)]))
    refine OwnDone.go (A := (T49.setTop (mkF m 201 #[.val (.int i1), .val (.int i2), .val (.int i3), .val (.int i4), .val (.int i5), .val (.int s1), .val (.int s2), .val (.int r3), .val (.int r4), .val (.int r5), .val (.int r6), .val (.int r7), .val (.int r8), .val (.int r9), .val (.int r10), .val (.ref a11), .val (.ref c45), .val (.int r7), .val (.int r8), .val (.int r9), .val (.int r10)] []))) (fun tQ kQ => XS.icmpNo P49.here hx rfl (hb hby at_198) rfl (XT.ii_ne_f eqC) kQ) ?_
    show OwnDone p e below _ (T49.setTop (mkF m 201 #[.val (.int i1), .val (.int i2), .val (.int i3), .val (.int i4), .val (.int i5), .val (.int s1), .val (.int s2), .val (.int r3), .val (.int r4), .val (.int r5), .val (.int r6), .val (.int r7), .val (.int r8), .val (.int r9), .val (.int r10), .val (.ref a11), .val (.ref c45), .val (.int r7), .val (.int r8), .val (.int r9), .val (.int r10)] []))
    refine OwnDone.go (A := (T49.setTop (mkF m 204 #[.val (.int i1), .val (.int i2), .val (.int i3), .val (.int i4), .val (.int i5), .val (.int s1), .val (.int s2), .val (.int r3), .val (.int r4), .val (.int r5), .val (.int r6), .val (.int r7), .val (.int r8), .val (.int r9), .val (.int r10), .val (.ref a11), .val (.ref c45), .val (.int r7), .val (.int r8), .val (.int r9), .val (.int r10)] [(.int (0 : Int32)), (.ref c45)]))) (fun tQ kQ => ?_) ?_
    · refine XS.aload P49.here hx rfl (hb hby at_201) rfl rfl ?_
      show Steps p.tables e below (T49.setTop (mkF m 203 #[.val (.int i1), .val (.int i2), .val (.int i3), .val (.int i4), .val (.int i5), .val (.int s1), .val (.int s2), .val (.int r3), .val (.int r4), .val (.int r5), .val (.int r6), .val (.int r7), .val (.int r8), .val (.int r9), .val (.int r10), .val (.ref a11), .val (.ref c45), .val (.int r7), .val (.int r8), .val (.int r9), .val (.int r10)] [(.ref c45)])) _
      refine XS.iconst P49.here hx rfl (hb hby at_203) ?_
      show Steps p.tables e below (T49.setTop (mkF m 204 #[.val (.int i1), .val (.int i2), .val (.int i3), .val (.int i4), .val (.int i5), .val (.int s1), .val (.int s2), .val (.int r3), .val (.int r4), .val (.int r5), .val (.int r6), .val (.int r7), .val (.int r8), .val (.int r9), .val (.int r10), .val (.ref a11), .val (.ref c45), .val (.int r7), .val (.int r8), .val (.int r9), .val (.int r10)] [(.int (0 : Int32)), (.ref c45)])) _
      exact kQ
    show OwnDone p e below _ (T49.setTop (mkF m 204 #[.val (.int i1), .val (.int i2), .val (.int i3), .val (.int i4), .val (.int i5), .val (.int s1), .val (.int s2), .val (.int r3), .val (.int r4), .val (.int r5), .val (.int r6), .val (.int r7), .val (.int r8), .val (.int r9), .val (.int r10), .val (.ref a11), .val (.ref c45), .val (.int r7), .val (.int r8), .val (.int r9), .val (.int r10)] [(.int (0 : Int32)), (.ref c45)]))
    refine own_callV (y := (⟨"com/example/bounded_array/boundedarray/regex/CodePointSet", "last", "(I)I"⟩ : MethodName)) (z := (⟨"com/example/bounded_array/boundedarray/regex/CodePointSet", "last", "(I)I"⟩ : MethodName)) (CC := "com/example/bounded_array/boundedarray/regex/CodePointSet") C P49 O45.1 (hw _ (List.mem_of_getElem? (i := 189) rfl)) (hw _ (List.mem_of_getElem? (i := 190) rfl)) (hw _ (List.mem_of_getElem? (i := 192) rfl)) (hw _ (List.mem_of_getElem? (i := 192) rfl)) (hw _ (List.mem_of_getElem? (i := 191) rfl)) (hw _ (List.mem_of_getElem? (i := 145) rfl)) (hw _ (List.mem_of_getElem? (i := 193) rfl)) (by decide) (rmls20 l Z a0 hw c45 ra45 k45 hs45 lo45 hi45 r9 r45 h45 P49.old O45 Y45) (as := [(.int (0 : Int32))]) (rest := []) pd_21 rfl rfl (wd := 0) rfl rfl at_204 all0 (by decide) (by decide) (by decide) (by decide) (fun T50 h50 v50 P50 K50 hQ50 => ?_)
    obtain ⟨rfl, rfl⟩ := hQ50
    show OwnDone p e below _ (T50.setTop (mkF m 207 #[.val (.int i1), .val (.int i2), .val (.int i3), .val (.int i4), .val (.int i5), .val (.int s1), .val (.int s2), .val (.int r3), .val (.int r4), .val (.int r5), .val (.int r6), .val (.int r7), .val (.int r8), .val (.int r9), .val (.int r10), .val (.ref a11), .val (.ref c45), .val (.int r7), .val (.int r8), .val (.int r9), .val (.int r10)] [(.int r45)]))
    refine OwnDone.go (A := (T50.setTop (mkF m 211 #[.val (.int i1), .val (.int i2), .val (.int i3), .val (.int i4), .val (.int i5), .val (.int s1), .val (.int s2), .val (.int r3), .val (.int r4), .val (.int r5), .val (.int r6), .val (.int r7), .val (.int r8), .val (.int r9), .val (.int r10), .val (.ref a11), .val (.ref c45), .val (.int r7), .val (.int r8), .val (.int r9), .val (.int r10)] [(.int r10), (.int r8), (.int r45)]))) (fun tQ kQ => ?_) ?_
    · refine XS.iload P50.here hx rfl (hb hby at_207) rfl ?_
      show Steps p.tables e below (T50.setTop (mkF m 209 #[.val (.int i1), .val (.int i2), .val (.int i3), .val (.int i4), .val (.int i5), .val (.int s1), .val (.int s2), .val (.int r3), .val (.int r4), .val (.int r5), .val (.int r6), .val (.int r7), .val (.int r8), .val (.int r9), .val (.int r10), .val (.ref a11), .val (.ref c45), .val (.int r7), .val (.int r8), .val (.int r9), .val (.int r10)] [(.int r8), (.int r45)])) _
      refine XS.iload P50.here hx rfl (hb hby at_209) rfl ?_
      show Steps p.tables e below (T50.setTop (mkF m 211 #[.val (.int i1), .val (.int i2), .val (.int i3), .val (.int i4), .val (.int i5), .val (.int s1), .val (.int s2), .val (.int r3), .val (.int r4), .val (.int r5), .val (.int r6), .val (.int r7), .val (.int r8), .val (.int r9), .val (.int r10), .val (.ref a11), .val (.ref c45), .val (.int r7), .val (.int r8), .val (.int r9), .val (.int r10)] [(.int r10), (.int r8), (.int r45)])) _
      exact kQ
    show OwnDone p e below _ (T50.setTop (mkF m 211 #[.val (.int i1), .val (.int i2), .val (.int i3), .val (.int i4), .val (.int i5), .val (.int s1), .val (.int s2), .val (.int r3), .val (.int r4), .val (.int r5), .val (.int r6), .val (.int r7), .val (.int r8), .val (.int r9), .val (.int r10), .val (.ref a11), .val (.ref c45), .val (.int r7), .val (.int r8), .val (.int r9), .val (.int r10)] [(.int r10), (.int r8), (.int r45)]))
    refine own_callS (y := (⟨"java/lang/Math", "max", "(II)I"⟩ : MethodName)) C P50 (hw _ (List.mem_of_getElem? (i := 10) rfl)) (hw _ (List.mem_of_getElem? (i := 11) rfl)) (hw _ (List.mem_of_getElem? (i := 8) rfl)) (hw _ (List.mem_of_getElem? (i := 12) rfl)) (by decide) (rmmax l Z a0 hw r8 r10 h45 P50.old) (as := [(.int r8), (.int r10)]) (rest := [(.int r45)]) pd_10 rfl rfl (wd := 1) rfl rfl at_211 all0 (by decide) (by decide) (by decide) (by decide) (fun T51 h51 v51 P51 K51 hQ51 => ?_)
    obtain ⟨r51, rfl, mx51, rfl⟩ := hQ51
    show OwnDone p e below _ (T51.setTop (mkF m 214 #[.val (.int i1), .val (.int i2), .val (.int i3), .val (.int i4), .val (.int i5), .val (.int s1), .val (.int s2), .val (.int r3), .val (.int r4), .val (.int r5), .val (.int r6), .val (.int r7), .val (.int r8), .val (.int r9), .val (.int r10), .val (.ref a11), .val (.ref c45), .val (.int r7), .val (.int r8), .val (.int r9), .val (.int r10)] [(.int r51), (.int r45)]))
    refine OwnDone.go (A := (T51.setTop (mkF m 217 #[.val (.int i1), .val (.int i2), .val (.int i3), .val (.int i4), .val (.int i5), .val (.int s1), .val (.int s2), .val (.int r3), .val (.int r4), .val (.int r5), .val (.int r6), .val (.int r7), .val (.int r8), .val (.int r9), .val (.int r10), .val (.ref a11), .val (.ref c45), .val (.int r7), .val (.int r8), .val (.int r9), .val (.int r10)] []))) (fun tQ kQ => XS.icmpNo P51.here hx rfl (hb hby at_214) rfl (XT.ii_ne_f (own_mxeq' mx45 mx51)) kQ) ?_
    show OwnDone p e below _ (T51.setTop (mkF m 217 #[.val (.int i1), .val (.int i2), .val (.int i3), .val (.int i4), .val (.int i5), .val (.int s1), .val (.int s2), .val (.int r3), .val (.int r4), .val (.int r5), .val (.int r6), .val (.int r7), .val (.int r8), .val (.int r9), .val (.int r10), .val (.ref a11), .val (.ref c45), .val (.int r7), .val (.int r8), .val (.int r9), .val (.int r10)] []))
    refine OwnDone.go (A := (T51.setTop (mkF m 222 #[.val (.int i1), .val (.int i2), .val (.int i3), .val (.int i4), .val (.int i5), .val (.int s1), .val (.int s2), .val (.int r3), .val (.int r4), .val (.int r5), .val (.int r6), .val (.int r7), .val (.int r8), .val (.int r9), .val (.int r10), .val (.ref a11), .val (.ref c45), .val (.int r7), .val (.int r8), .val (.int r9), .val (.int r10)] [(.int (1 : Int32))]))) (fun tQ kQ => ?_) ?_
    · refine XS.iconst P51.here hx rfl (hb hby at_217) ?_
      show Steps p.tables e below (T51.setTop (mkF m 218 #[.val (.int i1), .val (.int i2), .val (.int i3), .val (.int i4), .val (.int i5), .val (.int s1), .val (.int s2), .val (.int r3), .val (.int r4), .val (.int r5), .val (.int r6), .val (.int r7), .val (.int r8), .val (.int r9), .val (.int r10), .val (.ref a11), .val (.ref c45), .val (.int r7), .val (.int r8), .val (.int r9), .val (.int r10)] [(.int (1 : Int32))])) _
      refine XS.goto P51.here hx rfl (pc0 := 218) (pc' := 222) rfl (hb hby at_218) (by decide) (by decide) ?_
      show Steps p.tables e below (T51.setTop (mkF m 222 #[.val (.int i1), .val (.int i2), .val (.int i3), .val (.int i4), .val (.int i5), .val (.int s1), .val (.int s2), .val (.int r3), .val (.int r4), .val (.int r5), .val (.int r6), .val (.int r7), .val (.int r8), .val (.int r9), .val (.int r10), .val (.ref a11), .val (.ref c45), .val (.int r7), .val (.int r8), .val (.int r9), .val (.int r10)] [(.int (1 : Int32))])) _
      exact kQ
    show OwnDone p e below _ (T51.setTop (mkF m 222 #[.val (.int i1), .val (.int i2), .val (.int i3), .val (.int i4), .val (.int i5), .val (.int s1), .val (.int s2), .val (.int r3), .val (.int r4), .val (.int r5), .val (.int r6), .val (.int r7), .val (.int r8), .val (.int r9), .val (.int r10), .val (.ref a11), .val (.ref c45), .val (.int r7), .val (.int r8), .val (.int r9), .val (.int r10)] [(.int (1 : Int32))]))
    refine own_retN C P51 (by simp) (z' := (1 : Int32)) (by decide) at_222 (by decide) (by decide) rfl
set_option maxRecDepth 65536 in
set_option maxHeartbeats 40000000 in
theorem comes_1 {Post : Tables → Env → Array Value → State → Outcome → State → Prop} (hpost : ∀ tb e args s v u, (limb_1_1.after args s (.returned v) u = true ∧ limb_1_2.after args s (.returned v) u = true ∧ True) → FrameEnd s (.returned v) u (Jvm.fieldLocs frame_1_writes args s ++ Jvm.arrayLocs frame_1_arrays args s ++ Jvm.staticLocs frame_1_statics s) 32 320 → Post tb e args s (.returned v) u) :
    ArmFor flags0 classFile x code maxLocals ret World_1 tables_1 room_1 Calls_1 rest_1 Pre_1 Post := by
  intro l hfl _ _ p e ha hc hk s m args below hf hA hF happ hP
  obtain ⟨hcalls, hrest, hpre⟩ := hP
  obtain ⟨-, -, -, hnamed, -, -, -, hat⟩ := (Spec.applies_iff hf).mp happ
  obtain ⟨hg, hn⟩ := and_e (Cond.before_iff.mp (show (Jvm.Cond.and given_1 narrow_1).before args s = true from hpre))
  obtain ⟨hcount, hg⟩ := and_e hg
  obtain ⟨w0, w1, w2, w3, w4, rfl⟩ : ∃ w0 w1 w2 w3 w4 : Value, args = #[w0, w1, w2, w3, w4] := by
    have hs : args.size = 5 := by simpa [Cond.value, given_1] using hcount
    obtain ⟨L⟩ := args
    match L, hs with
    | [w0, w1, w2, w3, w4], _ => exact ⟨w0, w1, w2, w3, w4, rfl⟩
  have hw := fun d (hd : d ∈ tables_1) => atoms_spec (ws := Jvm.Cond.code x code maxLocals ret :: tables_1) hat d (List.mem_cons_of_mem _ hd)
  have hfit : Fit s := fun {y c} hc i hi => by
    obtain ⟨ha, rfl⟩ := Array.getElem?_eq_some_iff.mp hc
    have q := List.all_eq_true.mp ((Array.all_eq_true_iff_forall_mem.mp hF) _ (Array.getElem_mem ha)) i (List.mem_range.mpr hi)
    simpa [Array.getElem?_eq_getElem hi] using q
  obtain ⟨hg0, hg⟩ := and_e hg
  obtain ⟨i0, ei0⟩ := is_v hg0
  obtain rfl : w0 = (.int i0) := Option.some.inj ei0
  obtain ⟨hg1, hg⟩ := and_e hg
  obtain ⟨i1, ei1⟩ := is_v hg1
  obtain rfl : w1 = (.int i1) := Option.some.inj ei1
  obtain ⟨hg2, hg⟩ := and_e hg
  obtain ⟨i2, ei2⟩ := is_v hg2
  obtain rfl : w2 = (.int i2) := Option.some.inj ei2
  obtain ⟨hg3, hg⟩ := and_e hg
  obtain ⟨i3, ei3⟩ := is_v hg3
  obtain rfl : w3 = (.int i3) := Option.some.inj ei3
  obtain ⟨i4, ei4⟩ := is_v hg
  obtain rfl : w4 = (.int i4) := Option.some.inj ei4
  obtain ⟨n, o, h1, h2, h3, _, L, rfl, ⟨rfl, -, N⟩, hq⟩ := rm0 l s _ hw i0 i1 i2 i3 i4 s.heap ⟨Nat.le_refl _, fun _ _ q => q⟩  tables_1 p e ha hc hk s m _ below hf ((Spec.applies_iff_loose hf).mp happ).1 ⟨rfl, State.Warmed39.refl s, rfl⟩ trivial
  refine ⟨n, _, h1, h2, h3, hpost _ _ _ _ _ _ ⟨Cond.after_iff.mpr rfl, Cond.after_iff.mpr (eq_i res_at (Term.int_eval (1)) rfl), trivial⟩ ⟨hq.1, hq.2.1, (hq.2.2.sift fun y hy => Or.inr ((N y hy).elim (fun q => (nomatch q)) id)).mono (by decide) (by decide)⟩⟩
theorem main_1_1 : Claimed_1_1 := comes_1 fun _ _ _ _ _ _ h hF => ⟨h.1, hF⟩
theorem main_1_2 : Claimed_1_2 := comes_1 fun _ _ _ _ _ _ h hF => ⟨h.2.1, hF⟩
end Jvm.Pilot.@@N@@
namespace Jvm.Pilot.@@N@@
open Jvm Jvm.ClassFile Sem Op Lib Jvm.Free Jvm.Stand Jvm.Pilot.@@N@@.Jvm.D
/-! MADE BY PROGRAM (witnessworld.py) out of the Statement's table words and the real class files: 29 classes; the members and pool entries that the words name. The judged class is class 1, her method 2. -/
namespace start1
open Jvm.ClassFile
def u (s : String) : CpInfo := .utf8 (stringToUtf16 s)
/-- a pool by its gaps: so many unusable entries, then the entry; so many at the end -/
def gap : Nat → List CpInfo → List CpInfo
  | 0, r => r
  | n + 1, r => .unusable :: gap n r
def poolList (es : List (Nat × CpInfo)) (last : Nat) : List CpInfo := es.foldr (fun e r => gap e.1 (e.2 :: r)) (gap last [])
def pool (es : List (Nat × CpInfo)) (last : Nat) : Array CpInfo := ⟨poolList es last⟩
def fileOf (pool : Array CpInfo) (this : Nat) (attrs : Array Attribute := #[]) (ms : Array MethodInfo := #[]) (fl : Nat := 33) (sup : Nat := 0) (ifs : Array Nat := #[]) (fds : Array FieldInfo := #[]) : ClassFile where
  minorVersion := 0
  majorVersion := 65
  constantPool := pool
  accessFlags := fl
  thisClass := this
  superClass := sup
  interfaces := ifs
  fields := fds
  methods := ms
  attributes := attrs
def plain (name : String) (sup : Option ClassId) : Class where
  name := name
  kind := .ordinary
  loader := none
  accessFlags := 33
  super := sup
  interfaces := #[]
  cf := none
  fields := #[]
  methods := #[]
  instanceTypes := #[]
  staticTypes := #[]
  resolved := #[]
  callSites := []
  init := .initialized
  statics := none
  mirror := none

def pool0 : Array CpInfo := pool [(5, u "<init>"), (0, u "()V"), (1, .class_ 10), (1, u "java/lang/Object"), (85, u "clone"), (0, u "()Ljava/lang/Object;")] 26

def k0c0 : Code := { maxStack := 0, maxLocals := 1, code := object_method_1_code, exceptionTable := #[], attributes := #[] }
def k0m0 : Method := { name := "<init>", desc := "()V", sig := { parameters := [], returnType := none }, accessFlags := 1, code := some k0c0 }
def k0m1 : Method := { name := "clone", desc := "()Ljava/lang/Object;", sig := { parameters := [], returnType := some (.object "java/lang/Object") }, accessFlags := 260, code := none }
/-- java/lang/Object -/
def k0 : Class := { plain "java/lang/Object" none with
  accessFlags := 33
  interfaces := #[]
  cf := some (fileOf pool0 8 #[] #[{ accessFlags := 1, nameIndex := 5, descriptorIndex := 6, attributes := #[] }, { accessFlags := 260, nameIndex := 96, descriptorIndex := 97, attributes := #[] }] 33 0 #[] #[])
  fields := #[]
  methods := #[k0m0, k0m1]
  instanceTypes := #[]
  staticTypes := #[]
  resolved := Array.replicate 124 none
  statics := none }

def pool1 : Array CpInfo := pool [(2, .class_ 4), (0, .nameAndType 5 6), (0, u "java/lang/Object"), (0, u "<init>"), (0, u "()V"), (0, .integer 2147483647), (0, .integer 1114112), (0, .methodref 10 11), (0, .class_ 12), (0, .nameAndType 13 14), (0, u "com/example/bounded_array/boundedarray/regex/BuilderAddPinLaw"), (0, u "cp"), (0, u "(IZ)I"), (0, .methodref 16 17), (0, .class_ 18), (0, .nameAndType 19 20), (0, u "java/lang/Math"), (0, u "min"), (0, u "(II)I"), (0, .methodref 16 22), (0, .nameAndType 23 20), (0, u "max"), (0, .class_ 25), (0, u "com/example/bounded_array/boundedarray/regex/CodePointSet$Builder"), (0, .methodref 24 3), (0, .methodref 24 28), (0, .nameAndType 29 30), (0, u "add"), (0, u "(II)V"), (0, .methodref 24 32), (0, .nameAndType 33 34), (0, u "build"), (0, u "()Lcom/example/bounded_array/boundedarray/regex/CodePointSet;"), (0, .methodref 36 37), (0, .class_ 38), (0, .nameAndType 39 40), (0, u "com/example/bounded_array/boundedarray/regex/CodePointSet"), (0, u "ranges"), (0, u "()I"), (0, .methodref 36 42), (0, .nameAndType 43 44), (0, u "first"), (0, u "(I)I"), (0, .methodref 36 46), (0, .nameAndType 47 44), (0, u "last"), (3, u "law"), (0, u "(IIIII)Z")] 4

def k1m0 : Method := { name := "<init>", desc := "()V", sig := { parameters := [], returnType := none }, accessFlags := 1, code := none }
def k1c1 : Code := { maxStack := 2, maxLocals := 2, code := method_2_code, exceptionTable := #[], attributes := #[] }
def k1m1 : Method := { name := "cp", desc := "(IZ)I", sig := { parameters := [.int, .boolean], returnType := some .int }, accessFlags := 10, code := some k1c1 }
def k1c2 : Code := { maxStack := 3, maxLocals := 21, code := code, exceptionTable := #[], attributes := #[] }
def k1m2 : Method := { name := "law", desc := "(IIIII)Z", sig := { parameters := [.int, .int, .int, .int, .int], returnType := some .boolean }, accessFlags := 9, code := some k1c2 }
/-- com/example/bounded_array/boundedarray/regex/BuilderAddPinLaw -/
def k1 : Class := { plain "com/example/bounded_array/boundedarray/regex/BuilderAddPinLaw" (some 0) with
  accessFlags := 49
  interfaces := #[]
  cf := some (fileOf pool1 10 #[] #[{ accessFlags := 1, nameIndex := 5, descriptorIndex := 6, attributes := #[] }, { accessFlags := 10, nameIndex := 13, descriptorIndex := 14, attributes := #[] }, { accessFlags := 9, nameIndex := 51, descriptorIndex := 52, attributes := #[] }] 49 2 #[] #[])
  fields := #[]
  methods := #[k1m0, k1m1, k1m2]
  instanceTypes := #[]
  staticTypes := #[]
  resolved := Array.replicate 57 none
  statics := none }

def pool2 : Array CpInfo := pool [(1, .class_ 2), (0, u "java/lang/Math"), (1, .class_ 6), (1, u "java/lang/Object"), (0, u "<init>"), (0, u "()V"), (89, .class_ 100), (1, u "java/lang/Math$RandomNumberGeneratorHolder"), (71, u "negativeZeroFloatBits"), (0, u "J"), (2, u "negativeZeroDoubleBits"), (21, u "max"), (2, u "min"), (43, u "$assertionsDisabled"), (0, u "Z"), (88, u "(II)I"), (2, u "twoToTheDoubleScaleDown"), (0, u "D"), (4, u "twoToTheDoubleScaleUp"), (9, u "E"), (3, u "PI"), (2, u "TAU"), (2, u "DEGREES_TO_RADIANS"), (0, u "RADIANS_TO_DEGREES")] 94

def k2m0 : Method := { name := "<init>", desc := "()V", sig := { parameters := [], returnType := none }, accessFlags := 2, code := none }
def k2c1 : Code := { maxStack := 2, maxLocals := 2, code := jdk_29_method_65_code, exceptionTable := #[], attributes := #[] }
def k2m1 : Method := { name := "max", desc := "(II)I", sig := { parameters := [.int, .int], returnType := some .int }, accessFlags := 9, code := some k2c1 }
def k2c2 : Code := { maxStack := 2, maxLocals := 2, code := jdk_29_method_69_code, exceptionTable := #[], attributes := #[] }
def k2m2 : Method := { name := "min", desc := "(II)I", sig := { parameters := [.int, .int], returnType := some .int }, accessFlags := 9, code := some k2c2 }
/-- java/lang/Math -/
def k2 : Class := { plain "java/lang/Math" (some 0) with
  accessFlags := 49
  interfaces := #[]
  cf := some (fileOf pool2 1 #[.nestMembers #[98]] #[{ accessFlags := 2, nameIndex := 7, descriptorIndex := 8, attributes := #[] }, { accessFlags := 9, nameIndex := 198, descriptorIndex := 335, attributes := #[] }, { accessFlags := 9, nameIndex := 201, descriptorIndex := 335, attributes := #[] }] 49 4 #[] #[{ accessFlags := 25, nameIndex := 354, descriptorIndex := 339, attributes := #[] }, { accessFlags := 25, nameIndex := 358, descriptorIndex := 339, attributes := #[] }, { accessFlags := 25, nameIndex := 361, descriptorIndex := 339, attributes := #[] }, { accessFlags := 26, nameIndex := 364, descriptorIndex := 339, attributes := #[] }, { accessFlags := 26, nameIndex := 365, descriptorIndex := 339, attributes := #[] }, { accessFlags := 26, nameIndex := 172, descriptorIndex := 173, attributes := #[] }, { accessFlags := 26, nameIndex := 176, descriptorIndex := 173, attributes := #[] }, { accessFlags := 8, nameIndex := 344, descriptorIndex := 339, attributes := #[] }, { accessFlags := 8, nameIndex := 338, descriptorIndex := 339, attributes := #[] }, { accessFlags := 4120, nameIndex := 245, descriptorIndex := 246, attributes := #[] }])
  fields := #[{ name := "E", type := .double, accessFlags := 25, slot := 0, constantValue := 0 }, { name := "PI", type := .double, accessFlags := 25, slot := 1, constantValue := 0 }, { name := "TAU", type := .double, accessFlags := 25, slot := 2, constantValue := 0 }, { name := "DEGREES_TO_RADIANS", type := .double, accessFlags := 26, slot := 3, constantValue := 0 }, { name := "RADIANS_TO_DEGREES", type := .double, accessFlags := 26, slot := 4, constantValue := 0 }, { name := "negativeZeroFloatBits", type := .long, accessFlags := 26, slot := 5, constantValue := 0 }, { name := "negativeZeroDoubleBits", type := .long, accessFlags := 26, slot := 6, constantValue := 0 }, { name := "twoToTheDoubleScaleUp", type := .double, accessFlags := 8, slot := 7, constantValue := 0 }, { name := "twoToTheDoubleScaleDown", type := .double, accessFlags := 8, slot := 8, constantValue := 0 }, { name := "$assertionsDisabled", type := .boolean, accessFlags := 4120, slot := 9, constantValue := 0 }]
  methods := #[k2m0, k2m1, k2m2]
  instanceTypes := #[]
  staticTypes := #[.double, .double, .double, .double, .double, .long, .long, .double, .double, .boolean]
  resolved := Array.replicate 460 none
  statics := none }

def pool3 : Array CpInfo := pool [(1, .methodref 2 3), (0, .class_ 4), (0, .nameAndType 5 6), (0, u "java/lang/Object"), (0, u "<init>"), (0, u "()V"), (0, .fieldref 8 9), (0, .class_ 10), (0, .nameAndType 11 12), (0, u "com/example/bounded_array/boundedarray/regex/CodePointSet$Builder"), (0, u "bounds"), (0, u "[I"), (0, .class_ 14), (0, u "java/util/IdentityHashMap"), (0, .methodref 13 3), (0, .methodref 17 18), (0, .class_ 19), (0, .nameAndType 20 21), (0, u "java/util/Collections"), (0, u "newSetFromMap"), (0, u "(Ljava/util/Map;)Ljava/util/Set;"), (0, .fieldref 8 23), (0, .nameAndType 24 25), (0, u "added"), (0, u "Ljava/util/Set;"), (0, .methodref 8 27), (0, .nameAndType 28 29), (0, u "makeRoom"), (0, u "(I)V"), (0, .fieldref 8 31), (0, .nameAndType 32 33), (0, u "count"), (0, u "I"), (4, u "add"), (2, .class_ 42), (0, u "com/example/bounded_array/boundedarray/regex/CodePointSet"), (6, .methodref 50 51), (0, .class_ 52), (0, .nameAndType 53 54), (0, u "java/lang/Math"), (0, u "max"), (0, u "(II)I"), (0, .methodref 56 57), (0, .class_ 58), (0, .nameAndType 59 60), (0, u "java/util/Arrays"), (0, u "copyOf"), (0, u "([II)[I"), (0, .methodref 56 62), (0, .nameAndType 63 64), (0, u "sort"), (0, u "([J)V"), (0, .methodref 41 66), (0, .nameAndType 5 67), (0, u "([I)V"), (4, u "(II)V"), (2, u "build"), (0, u "()Lcom/example/bounded_array/boundedarray/regex/CodePointSet;")] 8

def k3c0 : Code := { maxStack := 3, maxLocals := 1, code := prog_13_method_1_code, exceptionTable := #[], attributes := #[] }
def k3m0 : Method := { name := "<init>", desc := "()V", sig := { parameters := [], returnType := none }, accessFlags := 0, code := some k3c0 }
def k3c1 : Code := { maxStack := 3, maxLocals := 3, code := prog_13_method_2_code, exceptionTable := #[], attributes := #[] }
def k3m1 : Method := { name := "add", desc := "(II)V", sig := { parameters := [.int, .int], returnType := none }, accessFlags := 0, code := some k3c1 }
def k3c2 : Code := { maxStack := 5, maxLocals := 2, code := prog_13_method_4_code, exceptionTable := #[], attributes := #[] }
def k3m2 : Method := { name := "makeRoom", desc := "(I)V", sig := { parameters := [.int], returnType := none }, accessFlags := 2, code := some k3c2 }
def k3c3 : Code := { maxStack := 7, maxLocals := 11, code := prog_13_method_5_code, exceptionTable := #[], attributes := #[] }
def k3m3 : Method := { name := "build", desc := "()Lcom/example/bounded_array/boundedarray/regex/CodePointSet;", sig := { parameters := [], returnType := some (.object "com/example/bounded_array/boundedarray/regex/CodePointSet") }, accessFlags := 0, code := some k3c3 }
/-- com/example/bounded_array/boundedarray/regex/CodePointSet$Builder -/
def k3 : Class := { plain "com/example/bounded_array/boundedarray/regex/CodePointSet$Builder" (some 0) with
  accessFlags := 48
  interfaces := #[]
  cf := some (fileOf pool3 8 #[.nestHost 41] #[{ accessFlags := 0, nameIndex := 5, descriptorIndex := 6, attributes := #[] }, { accessFlags := 0, nameIndex := 38, descriptorIndex := 72, attributes := #[] }, { accessFlags := 2, nameIndex := 28, descriptorIndex := 29, attributes := #[] }, { accessFlags := 0, nameIndex := 75, descriptorIndex := 76, attributes := #[] }] 48 2 #[] #[{ accessFlags := 2, nameIndex := 11, descriptorIndex := 12, attributes := #[] }, { accessFlags := 2, nameIndex := 32, descriptorIndex := 33, attributes := #[] }, { accessFlags := 18, nameIndex := 24, descriptorIndex := 25, attributes := #[] }])
  fields := #[{ name := "bounds", type := (.array .int), accessFlags := 2, slot := 0, constantValue := 0 }, { name := "count", type := .int, accessFlags := 2, slot := 1, constantValue := 0 }, { name := "added", type := (.object "java/util/Set"), accessFlags := 18, slot := 2, constantValue := 0 }]
  methods := #[k3m0, k3m1, k3m2, k3m3]
  instanceTypes := #[(.array .int), .int, (.object "java/util/Set")]
  staticTypes := #[]
  resolved := Array.replicate 85 none
  statics := none }

def pool4 : Array CpInfo := pool [(2, .class_ 4), (1, u "java/util/Map"), (14, u "()Ljava/util/Set;"), (11, u "()Z"), (4, .class_ 37), (0, u "java/util/Map$Entry"), (55, .class_ 94), (0, u "java/lang/Object"), (10, u "isEmpty"), (25, u "keySet")] 131

def k4m0 : Method := { name := "isEmpty", desc := "()Z", sig := { parameters := [], returnType := some .boolean }, accessFlags := 1025, code := none }
def k4m1 : Method := { name := "keySet", desc := "()Ljava/util/Set;", sig := { parameters := [], returnType := some (.object "java/util/Set") }, accessFlags := 1025, code := none }
/-- java/util/Map -/
def k4 : Class := { plain "java/util/Map" (some 0) with
  accessFlags := 1537
  interfaces := #[]
  cf := some (fileOf pool4 2 #[.nestMembers #[36]] #[{ accessFlags := 1025, nameIndex := 105, descriptorIndex := 31, attributes := #[] }, { accessFlags := 1025, nameIndex := 131, descriptorIndex := 19, attributes := #[] }] 1537 93 #[] #[])
  fields := #[]
  methods := #[k4m0, k4m1]
  instanceTypes := #[]
  staticTypes := #[]
  resolved := Array.replicate 263 none
  statics := none }

def pool5 : Array CpInfo := pool [(1, .methodref 2 3), (0, .class_ 4), (0, .nameAndType 5 6), (0, u "java/lang/Object"), (0, u "<init>"), (0, u "()V"), (1, .class_ 10), (1, u "java/util/AbstractMap"), (42, .class_ 54), (0, u "java/util/Map"), (9, u "keySet"), (0, u "Ljava/util/Set;"), (0, .class_ 67), (0, u "java/util/AbstractMap$1"), (5, u "values"), (0, u "Ljava/util/Collection;"), (0, .class_ 76), (0, u "java/util/AbstractMap$2"), (104, .class_ 182), (0, u "java/util/AbstractMap$ViewCollection"), (0, .class_ 184), (0, u "java/util/AbstractMap$SimpleImmutableEntry"), (0, .class_ 186), (0, u "java/util/AbstractMap$SimpleEntry"), (0, .class_ 188), (0, u "java/util/AbstractMap$2$1"), (0, .class_ 190), (0, u "java/util/AbstractMap$1$1")] 5

def k5c0 : Code := { maxStack := 1, maxLocals := 1, code := jdk_71_method_1_code, exceptionTable := #[], attributes := #[] }
def k5m0 : Method := { name := "<init>", desc := "()V", sig := { parameters := [], returnType := none }, accessFlags := 4, code := some k5c0 }
/-- java/util/AbstractMap -/
def k5 : Class := { plain "java/util/AbstractMap" (some 0) with
  accessFlags := 1057
  interfaces := #[4]
  cf := some (fileOf pool5 8 #[.nestMembers #[181, 183, 185, 75, 187, 66, 189]] #[{ accessFlags := 4, nameIndex := 5, descriptorIndex := 6, attributes := #[] }] 1057 2 #[53] #[{ accessFlags := 128, nameIndex := 64, descriptorIndex := 65, attributes := #[] }, { accessFlags := 128, nameIndex := 73, descriptorIndex := 74, attributes := #[] }])
  fields := #[{ name := "keySet", type := (.object "java/util/Set"), accessFlags := 128, slot := 0, constantValue := 0 }, { name := "values", type := (.object "java/util/Collection"), accessFlags := 128, slot := 1, constantValue := 0 }]
  methods := #[k5m0]
  instanceTypes := #[(.object "java/util/Set"), (.object "java/util/Collection")]
  staticTypes := #[]
  resolved := Array.replicate 196 none
  statics := none }

def pool6 : Array CpInfo := pool [(1, .class_ 2), (0, u "java/io/Serializable"), (0, .class_ 4), (0, u "java/lang/Object")] 2

/-- java/io/Serializable -/
def k6 : Class := { plain "java/io/Serializable" (some 0) with
  accessFlags := 1537
  interfaces := #[]
  cf := some (fileOf pool6 1 #[] #[] 1537 3 #[] #[])
  fields := #[]
  methods := #[]
  instanceTypes := #[]
  staticTypes := #[]
  resolved := Array.replicate 7 none
  statics := none }

def pool7 : Array CpInfo := pool [(1, .class_ 2), (0, u "java/lang/Cloneable"), (0, .class_ 4), (0, u "java/lang/Object")] 2

/-- java/lang/Cloneable -/
def k7 : Class := { plain "java/lang/Cloneable" (some 0) with
  accessFlags := 1537
  interfaces := #[]
  cf := some (fileOf pool7 1 #[] #[] 1537 3 #[] #[])
  fields := #[]
  methods := #[]
  instanceTypes := #[]
  staticTypes := #[]
  resolved := Array.replicate 7 none
  statics := none }

def pool8 : Array CpInfo := pool [(2, .class_ 4), (1, u "java/util/IdentityHashMap"), (0, u "NULL_KEY"), (0, u "Ljava/lang/Object;"), (0, .methodref 8 9), (0, .class_ 10), (0, .nameAndType 11 12), (0, u "java/util/AbstractMap"), (0, u "<init>"), (0, u "()V"), (0, .methodref 2 14), (0, .nameAndType 15 16), (0, u "init"), (0, u "(I)V"), (32, .class_ 50), (0, u "java/lang/Object"), (0, .fieldref 2 52), (0, .nameAndType 53 54), (0, u "table"), (0, u "[Ljava/lang/Object;"), (1, .class_ 58), (1, u "java/util/Map"), (0, u "size"), (9, .fieldref 2 70), (0, .nameAndType 59 71), (0, u "I"), (24, u "modCount"), (9, u "entrySet"), (0, u "()Ljava/util/Set;"), (11, u "()Z"), (37, u "Ljava/util/Set;"), (9, .fieldref 2 168), (0, .nameAndType 169 157), (0, u "keySet"), (0, .class_ 171), (0, u "java/util/IdentityHashMap$KeySet"), (0, .methodref 170 173), (0, .nameAndType 11 174), (0, u "(Ljava/util/IdentityHashMap;)V"), (4, .class_ 180), (0, u "java/util/IdentityHashMap$Values"), (1, .class_ 183), (0, u "java/util/IdentityHashMap$EntrySet"), (69, .class_ 254), (0, u "java/io/Serializable"), (0, .class_ 256), (0, u "java/lang/Cloneable"), (0, u "DEFAULT_CAPACITY"), (2, u "MINIMUM_CAPACITY"), (1, u "MAXIMUM_CAPACITY"), (2, u "serialVersionUID"), (0, u "J"), (17, u "isEmpty"), (84, .class_ 370), (0, u "java/util/IdentityHashMap$EntrySpliterator"), (0, .class_ 372), (0, u "java/util/IdentityHashMap$ValueSpliterator"), (0, .class_ 374), (0, u "java/util/IdentityHashMap$KeySpliterator"), (0, .class_ 376), (0, u "java/util/IdentityHashMap$IdentityHashMapSpliterator"), (0, .class_ 378), (0, u "java/util/IdentityHashMap$EntryIterator"), (0, .class_ 380), (0, u "java/util/IdentityHashMap$EntryIterator$Entry"), (0, .class_ 382), (0, u "java/util/IdentityHashMap$ValueIterator"), (0, .class_ 384), (0, u "java/util/IdentityHashMap$KeyIterator"), (0, .class_ 386), (0, u "java/util/IdentityHashMap$IdentityHashMapIterator")] 16

def k8c0 : Code := { maxStack := 2, maxLocals := 1, code := jdk_2581_method_3_code, exceptionTable := #[], attributes := #[] }
def k8m0 : Method := { name := "<init>", desc := "()V", sig := { parameters := [], returnType := none }, accessFlags := 1, code := some k8c0 }
def k8c1 : Code := { maxStack := 3, maxLocals := 2, code := jdk_2581_method_6_code, exceptionTable := #[], attributes := #[] }
def k8m1 : Method := { name := "init", desc := "(I)V", sig := { parameters := [.int], returnType := none }, accessFlags := 2, code := some k8c1 }
def k8c2 : Code := { maxStack := 1, maxLocals := 1, code := jdk_2581_method_9_code, exceptionTable := #[], attributes := #[] }
def k8m2 : Method := { name := "isEmpty", desc := "()Z", sig := { parameters := [], returnType := some .boolean }, accessFlags := 1, code := some k8c2 }
def k8c3 : Code := { maxStack := 3, maxLocals := 2, code := jdk_2581_method_26_code, exceptionTable := #[], attributes := #[] }
def k8m3 : Method := { name := "keySet", desc := "()Ljava/util/Set;", sig := { parameters := [], returnType := some (.object "java/util/Set") }, accessFlags := 1, code := some k8c3 }
/-- java/util/IdentityHashMap -/
def k8 : Class := { plain "java/util/IdentityHashMap" (some 5) with
  accessFlags := 33
  interfaces := #[4, 6, 7]
  cf := some (fileOf pool8 2 #[.nestMembers #[369, 371, 373, 375, 182, 179, 170, 377, 379, 381, 383, 385]] #[{ accessFlags := 1, nameIndex := 11, descriptorIndex := 12, attributes := #[] }, { accessFlags := 2, nameIndex := 15, descriptorIndex := 16, attributes := #[] }, { accessFlags := 1, nameIndex := 284, descriptorIndex := 119, attributes := #[] }, { accessFlags := 1, nameIndex := 169, descriptorIndex := 107, attributes := #[] }] 33 8 #[56, 253, 255] #[{ accessFlags := 26, nameIndex := 257, descriptorIndex := 71, attributes := #[] }, { accessFlags := 26, nameIndex := 260, descriptorIndex := 71, attributes := #[] }, { accessFlags := 26, nameIndex := 262, descriptorIndex := 71, attributes := #[] }, { accessFlags := 128, nameIndex := 53, descriptorIndex := 54, attributes := #[] }, { accessFlags := 0, nameIndex := 59, descriptorIndex := 71, attributes := #[] }, { accessFlags := 128, nameIndex := 96, descriptorIndex := 71, attributes := #[] }, { accessFlags := 24, nameIndex := 5, descriptorIndex := 6, attributes := #[] }, { accessFlags := 130, nameIndex := 106, descriptorIndex := 157, attributes := #[] }, { accessFlags := 26, nameIndex := 265, descriptorIndex := 266, attributes := #[] }])
  fields := #[{ name := "DEFAULT_CAPACITY", type := .int, accessFlags := 26, slot := 0, constantValue := 0 }, { name := "MINIMUM_CAPACITY", type := .int, accessFlags := 26, slot := 1, constantValue := 0 }, { name := "MAXIMUM_CAPACITY", type := .int, accessFlags := 26, slot := 2, constantValue := 0 }, { name := "table", type := (.array (.object "java/lang/Object")), accessFlags := 128, slot := 2, constantValue := 0 }, { name := "size", type := .int, accessFlags := 0, slot := 3, constantValue := 0 }, { name := "modCount", type := .int, accessFlags := 128, slot := 4, constantValue := 0 }, { name := "NULL_KEY", type := (.object "java/lang/Object"), accessFlags := 24, slot := 3, constantValue := 0 }, { name := "entrySet", type := (.object "java/util/Set"), accessFlags := 130, slot := 5, constantValue := 0 }, { name := "serialVersionUID", type := .long, accessFlags := 26, slot := 4, constantValue := 0 }]
  methods := #[k8m0, k8m1, k8m2, k8m3]
  instanceTypes := #[(.object "java/util/Set"), (.object "java/util/Collection"), (.array (.object "java/lang/Object")), .int, .int, (.object "java/util/Set")]
  staticTypes := #[.int, .int, .int, (.object "java/lang/Object"), .long]
  resolved := ⟨List.replicate 170 none ++ (some (.cls 16)) :: (List.replicate 1 none ++ (some (.method ⟨16, 0⟩)) :: List.replicate 230 none)⟩
  statics := none }

def pool9 : Array CpInfo := pool [(2, .class_ 4), (1, u "java/lang/Object"), (0, u "<init>"), (0, u "()V"), (12, .class_ 20), (0, u "java/util/Collections"), (63, u "r"), (0, u "Ljava/util/Random;"), (45, u "()Z"), (34, .class_ 167), (0, u "java/util/Collections$UnmodifiableCollection"), (6, .class_ 175), (0, u "java/util/Collections$UnmodifiableSequencedCollection"), (6, .class_ 183), (0, u "java/util/Collections$UnmodifiableSet"), (6, .class_ 191), (0, u "java/util/Collections$UnmodifiableSequencedSet"), (6, .class_ 199), (0, u "java/util/Collections$UnmodifiableSortedSet"), (6, .class_ 207), (0, u "java/util/Collections$UnmodifiableNavigableSet"), (4, .class_ 213), (0, u "java/util/Collections$UnmodifiableList"), (1, .class_ 216), (0, u "java/util/Collections$UnmodifiableRandomAccessList"), (4, .class_ 222), (0, u "java/util/Map"), (0, .class_ 224), (0, u "java/util/Collections$UnmodifiableMap"), (1, .nameAndType 5 227), (0, u "(Ljava/util/Map;)V"), (3, .class_ 232), (0, u "java/util/Collections$UnmodifiableSequencedMap"), (4, .class_ 238), (0, u "java/util/Collections$UnmodifiableSortedMap"), (6, .class_ 246), (0, u "java/util/Collections$UnmodifiableNavigableMap"), (3, .class_ 251), (0, u "java/util/Collections$SynchronizedCollection"), (4, .class_ 257), (0, u "java/util/Collections$SynchronizedSet"), (4, .class_ 263), (0, u "java/util/Collections$SynchronizedSortedSet"), (1, .class_ 266), (0, u "java/util/Collections$SynchronizedNavigableSet"), (1, .class_ 269), (0, u "java/util/Collections$SynchronizedRandomAccessList"), (1, .class_ 272), (0, u "java/util/Collections$SynchronizedList"), (5, .class_ 279), (0, u "java/util/Collections$SynchronizedMap"), (1, .class_ 282), (0, u "java/util/Collections$SynchronizedSortedMap"), (1, .class_ 285), (0, u "java/util/Collections$SynchronizedNavigableMap"), (1, .class_ 288), (0, u "java/util/Collections$CheckedCollection"), (11, .class_ 301), (0, u "java/util/Collections$CheckedQueue"), (3, .class_ 306), (0, u "java/util/Collections$CheckedSet"), (3, .class_ 311), (0, u "java/util/Collections$CheckedSortedSet"), (3, .class_ 316), (0, u "java/util/Collections$CheckedNavigableSet"), (3, .class_ 321), (0, u "java/util/Collections$CheckedRandomAccessList"), (3, .class_ 326), (0, u "java/util/Collections$CheckedList"), (1, .class_ 329), (0, u "java/util/Collections$CheckedMap"), (3, .class_ 334), (0, u "java/util/Collections$CheckedSortedMap"), (3, .class_ 339), (0, u "java/util/Collections$CheckedNavigableMap"), (4, .class_ 346), (1, u "java/util/Collections$EmptyIterator"), (3, .class_ 352), (1, u "java/util/Collections$EmptyListIterator"), (2, .class_ 357), (1, u "java/util/Collections$EmptyEnumeration"), (4, u "EMPTY_SET"), (0, u "Ljava/util/Set;"), (6, u "EMPTY_LIST"), (0, u "Ljava/util/List;"), (2, u "EMPTY_MAP"), (0, u "Ljava/util/Map;"), (4, .class_ 381), (0, u "java/util/Collections$SingletonSet"), (2, .class_ 385), (0, u "java/util/Collections$1"), (1, .class_ 388), (0, u "java/util/Collections$2"), (1, .class_ 391), (0, u "java/util/Collections$SingletonList"), (1, .class_ 394), (0, u "java/util/Collections$SingletonMap"), (22, .class_ 418), (0, u "java/util/Collections$CopiesList"), (4, .class_ 425), (1, u "java/util/Collections$ReverseComparator"), (8, .class_ 435), (0, u "java/util/Collections$ReverseComparator2"), (6, .class_ 443), (0, u "java/util/Collections$3"), (20, .interfaceMethodref 221 465), (0, .nameAndType 466 131), (0, u "isEmpty"), (2, .class_ 470), (0, u "java/util/Collections$SetFromMap"), (0, .methodref 469 226), (1, .class_ 474), (0, u "java/util/Collections$SequencedSetFromMap"), (3, .class_ 479), (0, u "java/util/Collections$AsLIFOQueue"), (11, .class_ 492), (0, u "java/util/Collections$EmptySet"), (1, .class_ 495), (0, u "java/util/Collections$EmptyList"), (1, .class_ 498), (0, u "java/util/Collections$EmptyMap"), (1, u "BINARYSEARCH_THRESHOLD"), (0, u "I"), (2, u "REVERSE_THRESHOLD"), (1, u "SHUFFLE_THRESHOLD"), (1, u "FILL_THRESHOLD"), (1, u "ROTATE_THRESHOLD"), (1, u "COPY_THRESHOLD"), (1, u "REPLACEALL_THRESHOLD"), (1, u "INDEXOFSUBLIST_THRESHOLD"), (314, u "newSetFromMap"), (0, u "(Ljava/util/Map;)Ljava/util/Set;"), (17, .class_ 851), (0, u "java/util/Collections$CheckedMap$CheckedEntrySet"), (0, .class_ 853), (0, u "java/util/Collections$CheckedMap$CheckedEntrySet$CheckedEntry"), (0, .class_ 855), (0, u "java/util/Collections$CheckedMap$CheckedEntrySet$1"), (0, .class_ 857), (0, u "java/util/Collections$CheckedList$1"), (0, .class_ 859), (0, u "java/util/Collections$CheckedCollection$1"), (0, .class_ 861), (0, u "java/util/Collections$UnmodifiableNavigableMap$EmptyNavigableMap"), (0, .class_ 863), (0, u "java/util/Collections$UnmodifiableMap$UnmodifiableEntrySet"), (0, .class_ 865), (0, u "java/util/Collections$UnmodifiableMap$UnmodifiableEntrySet$UnmodifiableEntry"), (0, .class_ 867), (0, u "java/util/Collections$UnmodifiableMap$UnmodifiableEntrySet$UnmodifiableEntrySetSpliterator"), (0, .class_ 869), (0, u "java/util/Collections$UnmodifiableMap$UnmodifiableEntrySet$1"), (0, .class_ 871), (0, u "java/util/Collections$UnmodifiableList$1"), (0, .class_ 873), (0, u "java/util/Collections$UnmodifiableNavigableSet$EmptyNavigableSet"), (0, .class_ 875), (0, u "java/util/Collections$UnmodifiableCollection$1")] 57

def k9m0 : Method := { name := "<init>", desc := "()V", sig := { parameters := [], returnType := none }, accessFlags := 2, code := none }
def k9c1 : Code := { maxStack := 3, maxLocals := 1, code := jdk_79_method_85_code, exceptionTable := #[], attributes := #[] }
def k9m1 : Method := { name := "newSetFromMap", desc := "(Ljava/util/Map;)Ljava/util/Set;", sig := { parameters := [(.object "java/util/Map")], returnType := some (.object "java/util/Set") }, accessFlags := 9, code := some k9c1 }
/-- java/util/Collections -/
def k9 : Class := { plain "java/util/Collections" (some 0) with
  accessFlags := 33
  interfaces := #[]
  cf := some (fileOf pool9 19 #[.nestMembers #[478, 473, 469, 434, 423, 417, 393, 390, 380, 497, 494, 491, 355, 350, 344, 338, 333, 328, 850, 852, 854, 320, 325, 856, 315, 310, 305, 300, 287, 858, 284, 281, 278, 268, 271, 265, 262, 256, 250, 245, 860, 237, 231, 223, 862, 864, 866, 868, 215, 212, 870, 206, 872, 198, 190, 182, 174, 166, 874, 442, 387, 384]] #[{ accessFlags := 2, nameIndex := 5, descriptorIndex := 6, attributes := #[] }, { accessFlags := 9, nameIndex := 831, descriptorIndex := 832, attributes := #[] }] 33 2 #[] #[{ accessFlags := 26, nameIndex := 500, descriptorIndex := 501, attributes := #[] }, { accessFlags := 26, nameIndex := 504, descriptorIndex := 501, attributes := #[] }, { accessFlags := 26, nameIndex := 506, descriptorIndex := 501, attributes := #[] }, { accessFlags := 26, nameIndex := 508, descriptorIndex := 501, attributes := #[] }, { accessFlags := 26, nameIndex := 510, descriptorIndex := 501, attributes := #[] }, { accessFlags := 26, nameIndex := 512, descriptorIndex := 501, attributes := #[] }, { accessFlags := 26, nameIndex := 514, descriptorIndex := 501, attributes := #[] }, { accessFlags := 26, nameIndex := 516, descriptorIndex := 501, attributes := #[] }, { accessFlags := 10, nameIndex := 84, descriptorIndex := 85, attributes := #[] }, { accessFlags := 25, nameIndex := 362, descriptorIndex := 363, attributes := #[] }, { accessFlags := 25, nameIndex := 370, descriptorIndex := 371, attributes := #[] }, { accessFlags := 25, nameIndex := 374, descriptorIndex := 375, attributes := #[] }])
  fields := #[{ name := "BINARYSEARCH_THRESHOLD", type := .int, accessFlags := 26, slot := 0, constantValue := 0 }, { name := "REVERSE_THRESHOLD", type := .int, accessFlags := 26, slot := 1, constantValue := 0 }, { name := "SHUFFLE_THRESHOLD", type := .int, accessFlags := 26, slot := 2, constantValue := 0 }, { name := "FILL_THRESHOLD", type := .int, accessFlags := 26, slot := 3, constantValue := 0 }, { name := "ROTATE_THRESHOLD", type := .int, accessFlags := 26, slot := 4, constantValue := 0 }, { name := "COPY_THRESHOLD", type := .int, accessFlags := 26, slot := 5, constantValue := 0 }, { name := "REPLACEALL_THRESHOLD", type := .int, accessFlags := 26, slot := 6, constantValue := 0 }, { name := "INDEXOFSUBLIST_THRESHOLD", type := .int, accessFlags := 26, slot := 7, constantValue := 0 }, { name := "r", type := (.object "java/util/Random"), accessFlags := 10, slot := 8, constantValue := 0 }, { name := "EMPTY_SET", type := (.object "java/util/Set"), accessFlags := 25, slot := 9, constantValue := 0 }, { name := "EMPTY_LIST", type := (.object "java/util/List"), accessFlags := 25, slot := 10, constantValue := 0 }, { name := "EMPTY_MAP", type := (.object "java/util/Map"), accessFlags := 25, slot := 11, constantValue := 0 }]
  methods := #[k9m0, k9m1]
  instanceTypes := #[]
  staticTypes := #[.int, .int, .int, .int, .int, .int, .int, .int, (.object "java/util/Random"), (.object "java/util/Set"), (.object "java/util/List"), (.object "java/util/Map")]
  resolved := Array.replicate 933 none
  statics := none }

def pool10 : Array CpInfo := pool [(8, .class_ 10), (1, u "java/lang/Iterable"), (24, .class_ 36), (0, u "java/lang/Object")] 25

/-- java/lang/Iterable -/
def k10 : Class := { plain "java/lang/Iterable" (some 0) with
  accessFlags := 1537
  interfaces := #[]
  cf := some (fileOf pool10 8 #[] #[] 1537 35 #[] #[])
  fields := #[]
  methods := #[]
  instanceTypes := #[]
  staticTypes := #[]
  resolved := Array.replicate 62 none
  statics := none }

def pool11 : Array CpInfo := pool [(10, .class_ 12), (1, u "java/util/Collection"), (47, .class_ 61), (0, u "java/lang/Object"), (0, .class_ 63), (0, u "java/lang/Iterable")] 51

/-- java/util/Collection -/
def k11 : Class := { plain "java/util/Collection" (some 0) with
  accessFlags := 1537
  interfaces := #[10]
  cf := some (fileOf pool11 10 #[] #[] 1537 60 #[62] #[])
  fields := #[]
  methods := #[]
  instanceTypes := #[]
  staticTypes := #[]
  resolved := Array.replicate 115 none
  statics := none }

def pool12 : Array CpInfo := pool [(1, .methodref 2 3), (0, .class_ 4), (0, .nameAndType 5 6), (0, u "java/lang/Object"), (0, u "<init>"), (0, u "()V"), (1, .class_ 10), (1, u "java/util/AbstractCollection"), (66, .class_ 78), (0, u "java/util/Collection")] 81

def k12c0 : Code := { maxStack := 1, maxLocals := 1, code := jdk_22_method_1_code, exceptionTable := #[], attributes := #[] }
def k12m0 : Method := { name := "<init>", desc := "()V", sig := { parameters := [], returnType := none }, accessFlags := 4, code := some k12c0 }
/-- java/util/AbstractCollection -/
def k12 : Class := { plain "java/util/AbstractCollection" (some 0) with
  accessFlags := 1057
  interfaces := #[11]
  cf := some (fileOf pool12 8 #[] #[{ accessFlags := 4, nameIndex := 5, descriptorIndex := 6, attributes := #[] }] 1057 2 #[77] #[])
  fields := #[]
  methods := #[k12m0]
  instanceTypes := #[]
  staticTypes := #[]
  resolved := Array.replicate 160 none
  statics := none }

def pool13 : Array CpInfo := pool [(26, .class_ 27), (0, u "java/lang/Object"), (5, .class_ 34), (0, u "java/util/Set"), (1, .class_ 38), (1, u "java/util/Collection")] 105

/-- java/util/Set -/
def k13 : Class := { plain "java/util/Set" (some 0) with
  accessFlags := 1537
  interfaces := #[11]
  cf := some (fileOf pool13 33 #[] #[] 1537 26 #[36] #[])
  fields := #[]
  methods := #[]
  instanceTypes := #[]
  staticTypes := #[]
  resolved := Array.replicate 144 none
  statics := none }

def pool14 : Array CpInfo := pool [(1, .methodref 2 3), (0, .class_ 4), (0, .nameAndType 5 6), (0, u "java/util/AbstractCollection"), (0, u "<init>"), (0, u "()V"), (0, .class_ 8), (0, u "java/util/Set"), (7, .class_ 17), (0, u "java/util/AbstractSet")] 78

def k14c0 : Code := { maxStack := 1, maxLocals := 1, code := jdk_91_method_1_code, exceptionTable := #[], attributes := #[] }
def k14m0 : Method := { name := "<init>", desc := "()V", sig := { parameters := [], returnType := none }, accessFlags := 4, code := some k14c0 }
/-- java/util/AbstractSet -/
def k14 : Class := { plain "java/util/AbstractSet" (some 12) with
  accessFlags := 1057
  interfaces := #[13]
  cf := some (fileOf pool14 16 #[] #[{ accessFlags := 4, nameIndex := 5, descriptorIndex := 6, attributes := #[] }] 1057 2 #[7] #[])
  fields := #[]
  methods := #[k14m0]
  instanceTypes := #[]
  staticTypes := #[]
  resolved := Array.replicate 96 none
  statics := none }

def pool15 : Array CpInfo := pool [(1, .methodref 2 3), (0, .class_ 4), (0, .nameAndType 5 6), (0, u "java/util/AbstractSet"), (0, u "<init>"), (0, u "()V"), (0, .fieldref 8 9), (0, .class_ 10), (0, .nameAndType 11 12), (0, u "java/util/Collections$SetFromMap"), (0, u "m"), (0, u "Ljava/util/Map;"), (0, .interfaceMethodref 14 15), (0, .class_ 16), (0, .nameAndType 17 18), (0, u "java/util/Map"), (0, u "keySet"), (0, u "()Ljava/util/Set;"), (0, .fieldref 8 20), (0, .nameAndType 21 22), (0, u "s"), (0, u "Ljava/util/Set;"), (30, .class_ 55), (1, u "java/util/Set"), (60, .class_ 117), (0, u "java/io/Serializable"), (3, u "serialVersionUID"), (0, u "J"), (3, u "(Ljava/util/Map;)V"), (51, .class_ 179), (0, u "java/util/Collections")] 2

def k15c0 : Code := { maxStack := 2, maxLocals := 2, code := jdk_2486_method_1_code, exceptionTable := #[], attributes := #[] }
def k15m0 : Method := { name := "<init>", desc := "(Ljava/util/Map;)V", sig := { parameters := [(.object "java/util/Map")], returnType := none }, accessFlags := 0, code := some k15c0 }
/-- java/util/Collections$SetFromMap -/
def k15 : Class := { plain "java/util/Collections$SetFromMap" (some 14) with
  accessFlags := 32
  interfaces := #[13, 6]
  cf := some (fileOf pool15 8 #[.nestHost 178] #[{ accessFlags := 0, nameIndex := 5, descriptorIndex := 126, attributes := #[] }] 32 2 #[53, 116] #[{ accessFlags := 16, nameIndex := 11, descriptorIndex := 12, attributes := #[] }, { accessFlags := 130, nameIndex := 21, descriptorIndex := 22, attributes := #[] }, { accessFlags := 26, nameIndex := 121, descriptorIndex := 122, attributes := #[] }])
  fields := #[{ name := "m", type := (.object "java/util/Map"), accessFlags := 16, slot := 0, constantValue := 0 }, { name := "s", type := (.object "java/util/Set"), accessFlags := 130, slot := 1, constantValue := 0 }, { name := "serialVersionUID", type := .long, accessFlags := 26, slot := 0, constantValue := 0 }]
  methods := #[k15m0]
  instanceTypes := #[(.object "java/util/Map"), (.object "java/util/Set")]
  staticTypes := #[.long]
  resolved := Array.replicate 182 none
  statics := none }

def pool16 : Array CpInfo := pool [(1, .fieldref 2 3), (0, .class_ 4), (0, .nameAndType 5 6), (0, u "java/util/IdentityHashMap$KeySet"), (0, u "this$0"), (0, u "Ljava/util/IdentityHashMap;"), (0, .methodref 8 9), (0, .class_ 10), (0, .nameAndType 11 12), (0, u "java/util/AbstractSet"), (0, u "<init>"), (0, u "()V"), (4, u "(Ljava/util/IdentityHashMap;)V"), (1, .class_ 21), (1, u "java/util/IdentityHashMap")] 136

def k16c0 : Code := { maxStack := 2, maxLocals := 2, code := jdk_2589_method_1_code, exceptionTable := #[], attributes := #[] }
def k16m0 : Method := { name := "<init>", desc := "(Ljava/util/IdentityHashMap;)V", sig := { parameters := [(.object "java/util/IdentityHashMap")], returnType := none }, accessFlags := 2, code := some k16c0 }
/-- java/util/IdentityHashMap$KeySet -/
def k16 : Class := { plain "java/util/IdentityHashMap$KeySet" (some 14) with
  accessFlags := 32
  interfaces := #[]
  cf := some (fileOf pool16 2 #[.nestHost 19] #[{ accessFlags := 2, nameIndex := 11, descriptorIndex := 17, attributes := #[] }] 32 8 #[] #[{ accessFlags := 4112, nameIndex := 5, descriptorIndex := 6, attributes := #[] }])
  fields := #[{ name := "this$0", type := (.object "java/util/IdentityHashMap"), accessFlags := 4112, slot := 0, constantValue := 0 }]
  methods := #[k16m0]
  instanceTypes := #[(.object "java/util/IdentityHashMap")]
  staticTypes := #[]
  resolved := Array.replicate 158 none
  statics := none }

def pool17 : Array CpInfo := pool [(2, .class_ 4), (1, u "java/lang/Object"), (0, u "<init>"), (0, u "()V"), (1, .class_ 10), (1, u "java/util/DualPivotQuicksort"), (0, u "sort"), (2, .class_ 16), (1, u "java/util/Arrays"), (2, .methodref 8 20), (0, .nameAndType 11 21), (0, u "([JIII)V"), (52, .class_ 76), (1, u "java/util/Arrays$NaturalOrder"), (32, u "()Ljava/lang/Object;"), (3, .class_ 115), (1, u "java/util/Arrays$LegacyMergeSort"), (1, u "Z"), (10, .nameAndType 129 109), (0, u "clone"), (20, .methodref 151 152), (0, .class_ 153), (0, .nameAndType 154 155), (0, u "java/lang/System"), (0, u "arraycopy"), (0, u "(Ljava/lang/Object;ILjava/lang/Object;II)V"), (90, .class_ 248), (1, u "jdk/internal/util/ArraysSupport"), (53, u "copyOf"), (1, .methodref 305 306), (0, .class_ 307), (0, .nameAndType 308 309), (0, u "java/lang/Math"), (0, u "min"), (0, u "(II)I"), (6, .methodref 317 128), (0, .class_ 318), (0, u "[I"), (56, .class_ 376), (0, u "java/util/Arrays$ArrayList"), (2, .methodref 246 380), (0, .nameAndType 381 382), (0, u "vectorizedHashCode"), (0, u "(Ljava/lang/Object;IIII)I"), (2, u "hashCode"), (22, u "([I)I"), (36, u "$assertionsDisabled"), (269, u "MIN_ARRAY_SORT_GRAN"), (0, u "I"), (2, u "INSERTIONSORT_THRESHOLD"), (11, u "([J)V"), (139, u "([II)[I"), (103, .class_ 976), (0, u "java/util/Arrays$ArrayItr")] 52

def k17m0 : Method := { name := "<init>", desc := "()V", sig := { parameters := [], returnType := none }, accessFlags := 2, code := none }
def k17c1 : Code := { maxStack := 4, maxLocals := 1, code := jdk_65_method_4_code, exceptionTable := #[], attributes := #[] }
def k17m1 : Method := { name := "sort", desc := "([J)V", sig := { parameters := [(.array .long)], returnType := none }, accessFlags := 9, code := some k17c1 }
def k17c2 : Code := { maxStack := 6, maxLocals := 3, code := jdk_65_method_123_code, exceptionTable := #[], attributes := #[] }
def k17m2 : Method := { name := "copyOf", desc := "([II)[I", sig := { parameters := [(.array .int), .int], returnType := some (.array .int) }, accessFlags := 9, code := some k17c2 }
def k17c3 : Code := { maxStack := 5, maxLocals := 1, code := jdk_65_method_150_code, exceptionTable := #[], attributes := #[] }
def k17m3 : Method := { name := "hashCode", desc := "([I)I", sig := { parameters := [(.array .int)], returnType := some .int }, accessFlags := 9, code := some k17c3 }
/-- java/util/Arrays -/
def k17 : Class := { plain "java/util/Arrays" (some 0) with
  accessFlags := 49
  interfaces := #[]
  cf := some (fileOf pool17 14 #[.nestMembers #[975, 375, 113, 74]] #[{ accessFlags := 2, nameIndex := 5, descriptorIndex := 6, attributes := #[] }, { accessFlags := 9, nameIndex := 11, descriptorIndex := 731, attributes := #[] }, { accessFlags := 9, nameIndex := 302, descriptorIndex := 871, attributes := #[] }, { accessFlags := 9, nameIndex := 385, descriptorIndex := 408, attributes := #[] }] 49 2 #[] #[{ accessFlags := 26, nameIndex := 715, descriptorIndex := 716, attributes := #[] }, { accessFlags := 26, nameIndex := 719, descriptorIndex := 716, attributes := #[] }, { accessFlags := 4120, nameIndex := 445, descriptorIndex := 117, attributes := #[] }])
  fields := #[{ name := "MIN_ARRAY_SORT_GRAN", type := .int, accessFlags := 26, slot := 0, constantValue := 0 }, { name := "INSERTIONSORT_THRESHOLD", type := .int, accessFlags := 26, slot := 1, constantValue := 0 }, { name := "$assertionsDisabled", type := .boolean, accessFlags := 4120, slot := 2, constantValue := 0 }]
  methods := #[k17m0, k17m1, k17m2, k17m3]
  instanceTypes := #[]
  staticTypes := #[.int, .int, .boolean]
  resolved := Array.replicate 1029 none
  statics := none }

def pool18 : Array CpInfo := pool [(1, .class_ 2), (0, u "java/util/DualPivotQuicksort"), (5, .class_ 10), (1, u "java/lang/Object"), (0, u "<init>"), (0, u "()V"), (4, .class_ 18), (0, u "java/util/DualPivotQuicksort$Sorter"), (9, u "sort"), (7, u "insertionSort"), (31, u "I"), (4, .class_ 74), (0, u "java/util/DualPivotQuicksort$RunMerger"), (10, .class_ 86), (0, u "java/util/DualPivotQuicksort$Merger"), (12, .methodref 1 100), (0, .nameAndType 28 101), (0, u "(Ljava/util/DualPivotQuicksort$Sorter;[JIII)V"), (2, u "([JIII)V"), (0, .methodref 1 106), (0, .nameAndType 36 107), (0, u "([JII)V"), (106, u "MAX_MIXED_INSERTION_SORT_SIZE"), (2, u "MAX_INSERTION_SORT_SIZE"), (1, u "MIN_PARALLEL_SORT_SIZE"), (1, u "MIN_TRY_MERGE_SIZE"), (0, u "MIN_FIRST_RUN_SIZE"), (1, u "MIN_FIRST_RUNS_FACTOR"), (1, u "MAX_RUN_CAPACITY"), (1, u "MIN_RUN_COUNT"), (1, u "MIN_PARALLEL_MERGE_PARTS_SIZE"), (0, u "MIN_BYTE_COUNTING_SORT_SIZE"), (1, u "MIN_SHORT_OR_CHAR_COUNTING_SORT_SIZE"), (1, u "DELTA"), (1, u "MAX_RECURSION_DEPTH"), (1, u "NUM_BYTE_VALUES"), (1, u "MAX_BYTE_INDEX"), (0, u "NUM_CHAR_VALUES"), (0, u "NUM_SHORT_VALUES"), (0, u "MAX_SHORT_INDEX")] 86

def k18m0 : Method := { name := "<init>", desc := "()V", sig := { parameters := [], returnType := none }, accessFlags := 2, code := none }
def k18c1 : Code := { maxStack := 9, maxLocals := 7, code := jdk_2529_method_12_code, exceptionTable := #[], attributes := #[] }
def k18m1 : Method := { name := "sort", desc := "([JIII)V", sig := { parameters := [(.array .long), .int, .int, .int], returnType := none }, accessFlags := 8, code := some k18c1 }
def k18c2 : Code := { maxStack := 6, maxLocals := 25, code := jdk_2529_method_13_code, exceptionTable := #[], attributes := #[] }
def k18m2 : Method := { name := "sort", desc := "(Ljava/util/DualPivotQuicksort$Sorter;[JIII)V", sig := { parameters := [(.object "java/util/DualPivotQuicksort$Sorter"), (.array .long), .int, .int, .int], returnType := none }, accessFlags := 8, code := some k18c2 }
def k18c3 : Code := { maxStack := 5, maxLocals := 7, code := jdk_2529_method_15_code, exceptionTable := #[], attributes := #[] }
def k18m3 : Method := { name := "insertionSort", desc := "([JII)V", sig := { parameters := [(.array .long), .int, .int], returnType := none }, accessFlags := 10, code := some k18c3 }
/-- java/util/DualPivotQuicksort -/
def k18 : Class := { plain "java/util/DualPivotQuicksort" (some 0) with
  accessFlags := 48
  interfaces := #[]
  cf := some (fileOf pool18 1 #[.nestMembers #[73, 85, 17]] #[{ accessFlags := 2, nameIndex := 11, descriptorIndex := 12, attributes := #[] }, { accessFlags := 8, nameIndex := 28, descriptorIndex := 104, attributes := #[] }, { accessFlags := 8, nameIndex := 28, descriptorIndex := 101, attributes := #[] }, { accessFlags := 10, nameIndex := 36, descriptorIndex := 107, attributes := #[] }] 48 8 #[] #[{ accessFlags := 26, nameIndex := 214, descriptorIndex := 68, attributes := #[] }, { accessFlags := 26, nameIndex := 217, descriptorIndex := 68, attributes := #[] }, { accessFlags := 26, nameIndex := 219, descriptorIndex := 68, attributes := #[] }, { accessFlags := 26, nameIndex := 221, descriptorIndex := 68, attributes := #[] }, { accessFlags := 26, nameIndex := 222, descriptorIndex := 68, attributes := #[] }, { accessFlags := 26, nameIndex := 224, descriptorIndex := 68, attributes := #[] }, { accessFlags := 26, nameIndex := 226, descriptorIndex := 68, attributes := #[] }, { accessFlags := 26, nameIndex := 228, descriptorIndex := 68, attributes := #[] }, { accessFlags := 26, nameIndex := 230, descriptorIndex := 68, attributes := #[] }, { accessFlags := 26, nameIndex := 231, descriptorIndex := 68, attributes := #[] }, { accessFlags := 26, nameIndex := 233, descriptorIndex := 68, attributes := #[] }, { accessFlags := 26, nameIndex := 235, descriptorIndex := 68, attributes := #[] }, { accessFlags := 26, nameIndex := 237, descriptorIndex := 68, attributes := #[] }, { accessFlags := 26, nameIndex := 239, descriptorIndex := 68, attributes := #[] }, { accessFlags := 26, nameIndex := 241, descriptorIndex := 68, attributes := #[] }, { accessFlags := 26, nameIndex := 242, descriptorIndex := 68, attributes := #[] }, { accessFlags := 26, nameIndex := 243, descriptorIndex := 68, attributes := #[] }, { accessFlags := 26, nameIndex := 244, descriptorIndex := 68, attributes := #[] }])
  fields := #[{ name := "MAX_MIXED_INSERTION_SORT_SIZE", type := .int, accessFlags := 26, slot := 0, constantValue := 0 }, { name := "MAX_INSERTION_SORT_SIZE", type := .int, accessFlags := 26, slot := 1, constantValue := 0 }, { name := "MIN_PARALLEL_SORT_SIZE", type := .int, accessFlags := 26, slot := 2, constantValue := 0 }, { name := "MIN_TRY_MERGE_SIZE", type := .int, accessFlags := 26, slot := 3, constantValue := 0 }, { name := "MIN_FIRST_RUN_SIZE", type := .int, accessFlags := 26, slot := 4, constantValue := 0 }, { name := "MIN_FIRST_RUNS_FACTOR", type := .int, accessFlags := 26, slot := 5, constantValue := 0 }, { name := "MAX_RUN_CAPACITY", type := .int, accessFlags := 26, slot := 6, constantValue := 0 }, { name := "MIN_RUN_COUNT", type := .int, accessFlags := 26, slot := 7, constantValue := 0 }, { name := "MIN_PARALLEL_MERGE_PARTS_SIZE", type := .int, accessFlags := 26, slot := 8, constantValue := 0 }, { name := "MIN_BYTE_COUNTING_SORT_SIZE", type := .int, accessFlags := 26, slot := 9, constantValue := 0 }, { name := "MIN_SHORT_OR_CHAR_COUNTING_SORT_SIZE", type := .int, accessFlags := 26, slot := 10, constantValue := 0 }, { name := "DELTA", type := .int, accessFlags := 26, slot := 11, constantValue := 0 }, { name := "MAX_RECURSION_DEPTH", type := .int, accessFlags := 26, slot := 12, constantValue := 0 }, { name := "NUM_BYTE_VALUES", type := .int, accessFlags := 26, slot := 13, constantValue := 0 }, { name := "MAX_BYTE_INDEX", type := .int, accessFlags := 26, slot := 14, constantValue := 0 }, { name := "NUM_CHAR_VALUES", type := .int, accessFlags := 26, slot := 15, constantValue := 0 }, { name := "NUM_SHORT_VALUES", type := .int, accessFlags := 26, slot := 16, constantValue := 0 }, { name := "MAX_SHORT_INDEX", type := .int, accessFlags := 26, slot := 17, constantValue := 0 }]
  methods := #[k18m0, k18m1, k18m2, k18m3]
  instanceTypes := #[]
  staticTypes := #[.int, .int, .int, .int, .int, .int, .int, .int, .int, .int, .int, .int, .int, .int, .int, .int, .int, .int]
  resolved := Array.replicate 331 none
  statics := none }

def pool19 : Array CpInfo := pool [(1, .methodref 2 3), (0, .class_ 4), (0, .nameAndType 5 6), (0, u "java/lang/Object"), (0, u "<init>"), (0, u "()V"), (0, .fieldref 8 9), (0, .class_ 10), (0, .nameAndType 11 12), (0, u "com/example/bounded_array/boundedarray/regex/CodePointSet"), (0, u "bounds"), (0, u "[I"), (0, .methodref 14 15), (0, .class_ 16), (0, .nameAndType 17 18), (0, u "java/util/Arrays"), (0, u "hashCode"), (0, u "([I)I"), (0, .fieldref 8 20), (0, .nameAndType 21 22), (0, u "hash"), (0, u "I"), (0, .methodref 24 25), (0, .class_ 26), (0, .nameAndType 27 28), (0, u "java/lang/Math"), (0, u "min"), (0, u "(II)I"), (0, .fieldref 8 30), (0, .nameAndType 31 32), (0, u "lowAscii"), (0, u "J"), (0, .fieldref 8 34), (0, .nameAndType 35 32), (0, u "highAscii"), (6, u "([I)V"), (2, u "complement"), (0, u "Lcom/example/bounded_array/boundedarray/regex/CodePointSet;"), (0, .class_ 48), (0, u "com/example/bounded_array/boundedarray/regex/CodePointSet$Builder"), (24, u "ranges"), (0, u "()I"), (0, u "first"), (0, u "(I)I"), (0, u "last")] 6

def k19c0 : Code := { maxStack := 6, maxLocals := 9, code := prog_12_method_1_code, exceptionTable := #[], attributes := #[] }
def k19m0 : Method := { name := "<init>", desc := "([I)V", sig := { parameters := [(.array .int)], returnType := none }, accessFlags := 2, code := some k19c0 }
def k19c1 : Code := { maxStack := 2, maxLocals := 1, code := prog_12_method_6_code, exceptionTable := #[], attributes := #[] }
def k19m1 : Method := { name := "ranges", desc := "()I", sig := { parameters := [], returnType := some .int }, accessFlags := 0, code := some k19c1 }
def k19c2 : Code := { maxStack := 3, maxLocals := 2, code := prog_12_method_7_code, exceptionTable := #[], attributes := #[] }
def k19m2 : Method := { name := "first", desc := "(I)I", sig := { parameters := [.int], returnType := some .int }, accessFlags := 0, code := some k19c2 }
def k19c3 : Code := { maxStack := 3, maxLocals := 2, code := prog_12_method_8_code, exceptionTable := #[], attributes := #[] }
def k19m3 : Method := { name := "last", desc := "(I)I", sig := { parameters := [.int], returnType := some .int }, accessFlags := 0, code := some k19c3 }
/-- com/example/bounded_array/boundedarray/regex/CodePointSet -/
def k19 : Class := { plain "com/example/bounded_array/boundedarray/regex/CodePointSet" (some 0) with
  accessFlags := 48
  interfaces := #[]
  cf := some (fileOf pool19 8 #[.nestMembers #[47]] #[{ accessFlags := 2, nameIndex := 5, descriptorIndex := 42, attributes := #[] }, { accessFlags := 0, nameIndex := 73, descriptorIndex := 74, attributes := #[] }, { accessFlags := 0, nameIndex := 75, descriptorIndex := 76, attributes := #[] }, { accessFlags := 0, nameIndex := 77, descriptorIndex := 76, attributes := #[] }] 48 2 #[] #[{ accessFlags := 18, nameIndex := 11, descriptorIndex := 12, attributes := #[] }, { accessFlags := 18, nameIndex := 31, descriptorIndex := 32, attributes := #[] }, { accessFlags := 18, nameIndex := 35, descriptorIndex := 32, attributes := #[] }, { accessFlags := 18, nameIndex := 21, descriptorIndex := 22, attributes := #[] }, { accessFlags := 2, nameIndex := 45, descriptorIndex := 46, attributes := #[] }])
  fields := #[{ name := "bounds", type := (.array .int), accessFlags := 18, slot := 0, constantValue := 0 }, { name := "lowAscii", type := .long, accessFlags := 18, slot := 1, constantValue := 0 }, { name := "highAscii", type := .long, accessFlags := 18, slot := 2, constantValue := 0 }, { name := "hash", type := .int, accessFlags := 18, slot := 3, constantValue := 0 }, { name := "complement", type := (.object "com/example/bounded_array/boundedarray/regex/CodePointSet"), accessFlags := 2, slot := 4, constantValue := 0 }]
  methods := #[k19m0, k19m1, k19m2, k19m3]
  instanceTypes := #[(.array .int), .long, .long, .int, (.object "com/example/bounded_array/boundedarray/regex/CodePointSet")]
  staticTypes := #[]
  resolved := Array.replicate 84 none
  statics := none }

def pool20 : Array CpInfo := pool [(2, .class_ 4), (1, u "java/lang/Object"), (0, u "<init>"), (0, u "()V"), (1, .class_ 10), (1, u "java/lang/System"), (0, u "allowSecurityManager"), (0, u "I"), (16, u "cons"), (0, u "Ljava/io/Console;"), (77, .class_ 110), (1, u "java/lang/System$CallersHolder"), (43, u "initialErrStream"), (0, u "Ljava/io/PrintStream;"), (19, u "security"), (0, u "Ljava/lang/SecurityManager;"), (31, .class_ 209), (0, u "java/lang/System$1"), (7, u "props"), (0, u "Ljava/util/Properties;"), (2, u "lineSeparator"), (0, u "Ljava/lang/String;"), (96, .class_ 321), (1, u "java/lang/System$LoggerFinder"), (5, .class_ 328), (0, u "java/lang/System$Logger"), (67, u "err"), (2, u "out"), (91, u "notSupportedJnuEncoding"), (15, u "in"), (17, u "initialIn"), (0, u "Ljava/io/InputStream;"), (35, u "bootLayer"), (0, u "Ljava/lang/ModuleLayer;"), (99, .class_ 664), (0, u "java/lang/System$2"), (9, u "NEVER"), (2, u "MAYBE"), (49, u "arraycopy"), (0, u "(Ljava/lang/Object;ILjava/lang/Object;II)V"), (72, .class_ 802), (0, u "java/lang/System$Logger$Level")] 31

def k20m0 : Method := { name := "<init>", desc := "()V", sig := { parameters := [], returnType := none }, accessFlags := 2, code := none }
def k20m1 : Method := { name := "arraycopy", desc := "(Ljava/lang/Object;ILjava/lang/Object;II)V", sig := { parameters := [(.object "java/lang/Object"), .int, (.object "java/lang/Object"), .int, .int], returnType := none }, accessFlags := 265, code := none }
/-- java/lang/System -/
def k20 : Class := { plain "java/lang/System" (some 0) with
  accessFlags := 49
  interfaces := #[]
  cf := some (fileOf pool20 8 #[.nestMembers #[319, 327, 801, 108, 663, 208]] #[{ accessFlags := 2, nameIndex := 5, descriptorIndex := 6, attributes := #[] }, { accessFlags := 265, nameIndex := 727, descriptorIndex := 728, attributes := #[] }] 49 2 #[] #[{ accessFlags := 25, nameIndex := 507, descriptorIndex := 526, attributes := #[] }, { accessFlags := 25, nameIndex := 399, descriptorIndex := 155, attributes := #[] }, { accessFlags := 25, nameIndex := 396, descriptorIndex := 155, attributes := #[] }, { accessFlags := 10, nameIndex := 525, descriptorIndex := 526, attributes := #[] }, { accessFlags := 26, nameIndex := 674, descriptorIndex := 12, attributes := #[] }, { accessFlags := 26, nameIndex := 677, descriptorIndex := 12, attributes := #[] }, { accessFlags := 10, nameIndex := 11, descriptorIndex := 12, attributes := #[] }, { accessFlags := 74, nameIndex := 175, descriptorIndex := 176, attributes := #[] }, { accessFlags := 10, nameIndex := 491, descriptorIndex := 222, attributes := #[] }, { accessFlags := 74, nameIndex := 29, descriptorIndex := 30, attributes := #[] }, { accessFlags := 74, nameIndex := 154, descriptorIndex := 155, attributes := #[] }, { accessFlags := 10, nameIndex := 217, descriptorIndex := 218, attributes := #[] }, { accessFlags := 10, nameIndex := 221, descriptorIndex := 222, attributes := #[] }, { accessFlags := 8, nameIndex := 562, descriptorIndex := 563, attributes := #[] }])
  fields := #[{ name := "in", type := (.object "java/io/InputStream"), accessFlags := 25, slot := 0, constantValue := 0 }, { name := "out", type := (.object "java/io/PrintStream"), accessFlags := 25, slot := 1, constantValue := 0 }, { name := "err", type := (.object "java/io/PrintStream"), accessFlags := 25, slot := 2, constantValue := 0 }, { name := "initialIn", type := (.object "java/io/InputStream"), accessFlags := 10, slot := 3, constantValue := 0 }, { name := "NEVER", type := .int, accessFlags := 26, slot := 4, constantValue := 0 }, { name := "MAYBE", type := .int, accessFlags := 26, slot := 5, constantValue := 0 }, { name := "allowSecurityManager", type := .int, accessFlags := 10, slot := 6, constantValue := 0 }, { name := "security", type := (.object "java/lang/SecurityManager"), accessFlags := 74, slot := 7, constantValue := 0 }, { name := "notSupportedJnuEncoding", type := (.object "java/lang/String"), accessFlags := 10, slot := 8, constantValue := 0 }, { name := "cons", type := (.object "java/io/Console"), accessFlags := 74, slot := 9, constantValue := 0 }, { name := "initialErrStream", type := (.object "java/io/PrintStream"), accessFlags := 74, slot := 10, constantValue := 0 }, { name := "props", type := (.object "java/util/Properties"), accessFlags := 10, slot := 11, constantValue := 0 }, { name := "lineSeparator", type := (.object "java/lang/String"), accessFlags := 10, slot := 12, constantValue := 0 }, { name := "bootLayer", type := (.object "java/lang/ModuleLayer"), accessFlags := 8, slot := 13, constantValue := 0 }]
  methods := #[k20m0, k20m1]
  instanceTypes := #[]
  staticTypes := #[(.object "java/io/InputStream"), (.object "java/io/PrintStream"), (.object "java/io/PrintStream"), (.object "java/io/InputStream"), .int, .int, .int, (.object "java/lang/SecurityManager"), (.object "java/lang/String"), (.object "java/io/Console"), (.object "java/io/PrintStream"), (.object "java/util/Properties"), (.object "java/lang/String"), (.object "java/lang/ModuleLayer")]
  resolved := Array.replicate 834 none
  statics := none }

def pool21 : Array CpInfo := pool [(9, u "<init>"), (6, .class_ 18), (1, u "java/lang/Object"), (0, u "()V"), (1, .class_ 23), (1, u "jdk/internal/util/ArraysSupport"), (0, u "LOG2_ARRAY_LONG_INDEX_SCALE"), (0, u "I"), (2, u "U"), (0, u "Ljdk/internal/misc/Unsafe;"), (8, u "BIG_ENDIAN"), (0, u "Z"), (8, u "LOG2_BYTE_BIT_SIZE"), (4, u "LOG2_ARRAY_INT_INDEX_SCALE"), (19, u "hashCode"), (8, .class_ 83), (0, u "[I"), (0, .methodref 21 85), (0, .nameAndType 73 86), (0, u "(I[III)I"), (21, u "JLA"), (0, u "Ljdk/internal/access/JavaLangAccess;"), (11, u "LOG2_ARRAY_BOOLEAN_INDEX_SCALE"), (9, u "LOG2_ARRAY_BYTE_INDEX_SCALE"), (5, u "LOG2_ARRAY_CHAR_INDEX_SCALE"), (5, u "LOG2_ARRAY_SHORT_INDEX_SCALE"), (18, u "LOG2_ARRAY_FLOAT_INDEX_SCALE"), (24, u "LOG2_ARRAY_DOUBLE_INDEX_SCALE"), (89, u "T_BOOLEAN"), (2, u "T_CHAR"), (1, u "T_FLOAT"), (1, u "T_DOUBLE"), (1, u "T_BYTE"), (1, u "T_SHORT"), (1, u "T_INT"), (1, u "T_LONG"), (1, u "SOFT_MAX_ARRAY_LENGTH"), (26, u "vectorizedHashCode"), (0, u "(Ljava/lang/Object;IIII)I")] 55

def k21m0 : Method := { name := "<init>", desc := "()V", sig := { parameters := [], returnType := none }, accessFlags := 2, code := none }
def k21c1 : Code := { maxStack := 4, maxLocals := 5, code := jdk_48_method_4_code, exceptionTable := #[], attributes := #[] }
def k21m1 : Method := { name := "vectorizedHashCode", desc := "(Ljava/lang/Object;IIII)I", sig := { parameters := [(.object "java/lang/Object"), .int, .int, .int, .int], returnType := some .int }, accessFlags := 9, code := some k21c1 }
def k21c2 : Code := { maxStack := 3, maxLocals := 6, code := jdk_48_method_9_code, exceptionTable := #[], attributes := #[] }
def k21m2 : Method := { name := "hashCode", desc := "(I[III)I", sig := { parameters := [.int, (.array .int), .int, .int], returnType := some .int }, accessFlags := 10, code := some k21c2 }
/-- jdk/internal/util/ArraysSupport -/
def k21 : Class := { plain "jdk/internal/util/ArraysSupport" (some 0) with
  accessFlags := 33
  interfaces := #[]
  cf := some (fileOf pool21 21 #[] #[{ accessFlags := 2, nameIndex := 9, descriptorIndex := 19, attributes := #[] }, { accessFlags := 9, nameIndex := 321, descriptorIndex := 322, attributes := #[] }, { accessFlags := 10, nameIndex := 73, descriptorIndex := 86, attributes := #[] }] 33 16 #[] #[{ accessFlags := 24, nameIndex := 28, descriptorIndex := 29, attributes := #[] }, { accessFlags := 26, nameIndex := 38, descriptorIndex := 39, attributes := #[] }, { accessFlags := 25, nameIndex := 121, descriptorIndex := 25, attributes := #[] }, { accessFlags := 25, nameIndex := 131, descriptorIndex := 25, attributes := #[] }, { accessFlags := 25, nameIndex := 137, descriptorIndex := 25, attributes := #[] }, { accessFlags := 25, nameIndex := 143, descriptorIndex := 25, attributes := #[] }, { accessFlags := 25, nameIndex := 53, descriptorIndex := 25, attributes := #[] }, { accessFlags := 25, nameIndex := 24, descriptorIndex := 25, attributes := #[] }, { accessFlags := 25, nameIndex := 162, descriptorIndex := 25, attributes := #[] }, { accessFlags := 25, nameIndex := 187, descriptorIndex := 25, attributes := #[] }, { accessFlags := 26, nameIndex := 48, descriptorIndex := 25, attributes := #[] }, { accessFlags := 25, nameIndex := 277, descriptorIndex := 25, attributes := #[] }, { accessFlags := 25, nameIndex := 280, descriptorIndex := 25, attributes := #[] }, { accessFlags := 25, nameIndex := 282, descriptorIndex := 25, attributes := #[] }, { accessFlags := 25, nameIndex := 284, descriptorIndex := 25, attributes := #[] }, { accessFlags := 25, nameIndex := 286, descriptorIndex := 25, attributes := #[] }, { accessFlags := 25, nameIndex := 288, descriptorIndex := 25, attributes := #[] }, { accessFlags := 25, nameIndex := 290, descriptorIndex := 25, attributes := #[] }, { accessFlags := 25, nameIndex := 292, descriptorIndex := 25, attributes := #[] }, { accessFlags := 26, nameIndex := 108, descriptorIndex := 109, attributes := #[] }, { accessFlags := 25, nameIndex := 294, descriptorIndex := 25, attributes := #[] }])
  fields := #[{ name := "U", type := (.object "jdk/internal/misc/Unsafe"), accessFlags := 24, slot := 0, constantValue := 0 }, { name := "BIG_ENDIAN", type := .boolean, accessFlags := 26, slot := 1, constantValue := 0 }, { name := "LOG2_ARRAY_BOOLEAN_INDEX_SCALE", type := .int, accessFlags := 25, slot := 2, constantValue := 0 }, { name := "LOG2_ARRAY_BYTE_INDEX_SCALE", type := .int, accessFlags := 25, slot := 3, constantValue := 0 }, { name := "LOG2_ARRAY_CHAR_INDEX_SCALE", type := .int, accessFlags := 25, slot := 4, constantValue := 0 }, { name := "LOG2_ARRAY_SHORT_INDEX_SCALE", type := .int, accessFlags := 25, slot := 5, constantValue := 0 }, { name := "LOG2_ARRAY_INT_INDEX_SCALE", type := .int, accessFlags := 25, slot := 6, constantValue := 0 }, { name := "LOG2_ARRAY_LONG_INDEX_SCALE", type := .int, accessFlags := 25, slot := 7, constantValue := 0 }, { name := "LOG2_ARRAY_FLOAT_INDEX_SCALE", type := .int, accessFlags := 25, slot := 8, constantValue := 0 }, { name := "LOG2_ARRAY_DOUBLE_INDEX_SCALE", type := .int, accessFlags := 25, slot := 9, constantValue := 0 }, { name := "LOG2_BYTE_BIT_SIZE", type := .int, accessFlags := 26, slot := 10, constantValue := 0 }, { name := "T_BOOLEAN", type := .int, accessFlags := 25, slot := 11, constantValue := 0 }, { name := "T_CHAR", type := .int, accessFlags := 25, slot := 12, constantValue := 0 }, { name := "T_FLOAT", type := .int, accessFlags := 25, slot := 13, constantValue := 0 }, { name := "T_DOUBLE", type := .int, accessFlags := 25, slot := 14, constantValue := 0 }, { name := "T_BYTE", type := .int, accessFlags := 25, slot := 15, constantValue := 0 }, { name := "T_SHORT", type := .int, accessFlags := 25, slot := 16, constantValue := 0 }, { name := "T_INT", type := .int, accessFlags := 25, slot := 17, constantValue := 0 }, { name := "T_LONG", type := .int, accessFlags := 25, slot := 18, constantValue := 0 }, { name := "JLA", type := (.object "jdk/internal/access/JavaLangAccess"), accessFlags := 26, slot := 19, constantValue := 0 }, { name := "SOFT_MAX_ARRAY_LENGTH", type := .int, accessFlags := 25, slot := 20, constantValue := 0 }]
  methods := #[k21m0, k21m1, k21m2]
  instanceTypes := #[]
  staticTypes := #[(.object "jdk/internal/misc/Unsafe"), .boolean, .int, .int, .int, .int, .int, .int, .int, .int, .int, .int, .int, .int, .int, .int, .int, .int, .int, (.object "jdk/internal/access/JavaLangAccess"), .int]
  resolved := Array.replicate 378 none
  statics := none }

/-- the primitive byte -/
def k22 : Class := { plain "byte" none with kind := .primitive 'B', accessFlags := 0x411 }
/-- [B -/
def k23 : Class := { plain "[B" (some 0) with kind := .array 22 .byte, interfaces := #[7, 6], accessFlags := 1041 }

/-- the primitive int -/
def k24 : Class := { plain "int" none with kind := .primitive 'I', accessFlags := 0x411 }
/-- [I -/
def k25 : Class := { plain "[I" (some 0) with kind := .array 24 .int, interfaces := #[7, 6], accessFlags := 1041 }

/-- the primitive long -/
def k26 : Class := { plain "long" none with kind := .primitive 'J', accessFlags := 0x411 }
/-- [J -/
def k27 : Class := { plain "[J" (some 0) with kind := .array 26 .long, interfaces := #[7, 6], accessFlags := 1041 }

/-- [Ljava/lang/Object; -/
def k28 : Class := { plain "[Ljava/lang/Object;" (some 0) with kind := .array 0 (.object "java/lang/Object"), interfaces := #[7, 6], accessFlags := 1041 }

def heap : Heap := #[]
def classes : Array Class := #[k0, k1, k2, k3, k4, k5, k6, k7, k8, k9, k10, k11, k12, k13, k14, k15, k16, k17, k18, k19, k20, k21, k22, k23, k24, k25, k26, k27, k28]
def interned : List (Array UInt16 × Addr) := []
def slotsUsed : Nat := 0
def theMethod : MethodId := ⟨1, 2⟩
def args0 : Array Value := #[.int 5, .int 7, .int 3, .int 1, .int 2]
def aboutOver (below : List Frame) : State where
  vm := { classes := classes, interned := interned.toArray }
  heap := heap
  slotsUsed := slotsUsed
  threads := #[{ frames := .invoking theMethod args0 :: below }]
def below0 : List Frame := [.native { method := ⟨0, 0⟩, args := #[] }]
def about1 : State := aboutOver below0
def p0 : Program := .bare "" "" ""
def e0 : Env := launch0.env 0 0 0
theorem w_frames : about1.frames = Frame.invoking theMethod args0 :: below0 := rfl
set_option maxRecDepth 65536 in
theorem w_args : argsFit about1.vm theMethod args0 = true := by decide +kernel
set_option maxRecDepth 65536 in
theorem w_heap : heapFits about1 = true := by decide +kernel
set_option maxRecDepth 65536 in
theorem w_runnable : about1.curStatus? = some .runnable := by decide +kernel
set_option maxRecDepth 65536 in
theorem w_alone : about1.alone = true := by decide +kernel
set_option maxRecDepth 65536 in
theorem w_named : about1.methodNamed? x = some theMethod := by decide +kernel
set_option maxRecDepth 65536 in
theorem w_hears : about1.hears theMethod below0 = true := by decide +kernel
set_option maxRecDepth 65536 in
theorem w_ripe : about1.ripe theMethod args0 below0 = true := by decide +kernel
theorem w_running : about1.status = .running := rfl
set_option maxRecDepth 65536 in
theorem w_room : about1.hasRoom e0.platform room_1 = true :=
  launch0.hasRoom_least _ room_1 (by decide +kernel) (by decide +kernel) (by decide +kernel) (by decide +kernel) (by decide +kernel) (by decide +kernel)
theorem allAtoms_all (ts : List Jvm.Cond) (a : Array Jvm.Value) (st : Jvm.State) : (allAtoms ts).before a st = ts.all (fun c => c.before a st) := by
  induction ts with
  | nil => rfl
  | cons c t ih =>
    show (Jvm.Cond.and c (allAtoms t)).before a st = _
    rw [Jvm.Cond.before_and, ih, List.all_cons]
def words1 : List Jvm.Cond := Jvm.Cond.code x code maxLocals ret :: tables_1
/-- a 'code' word, met by the world's own term for the bytes: nothing is compared byte by byte -/
theorem code_word {y : MethodName} {bytes : ByteArray} {mx : Nat} {rt : Option FieldType} {a : Array Value} {s : State} {m : MethodId} {meth : Method} {c : Code} (h1 : s.methodNamed? y = some m) (h2 : s.vm.method? m = some meth) (h3 : meth.code = some c) (h4 : c.code = bytes)
    (h5 : (c.maxLocals == mx && c.exceptionTable.isEmpty && decide (c.maxStack ≤ mostOperands) && decide (meth.sig.returnType = rt) && !meth.locks && decide (parseMethodDescriptor y.desc = some meth.sig)) = true) : (Jvm.Cond.code y bytes mx rt).before a s = true := by
  simp only [Bool.and_eq_true, beq_iff_eq, Bool.not_eq_true', decide_eq_true_eq] at h5
  obtain ⟨⟨⟨⟨⟨g1, g2⟩, g3⟩, g4⟩, g5⟩, g6⟩ := h5
  simp [Cond.before, Cond.holds, Cond.value, h1, h2, h3, h4, g1, g2, g3, g4, g5, g6]
def isCode : Jvm.Cond → Bool
  | .code _ _ _ _ => true
  | _ => false
theorem all_split {L : List Jvm.Cond} {P : Jvm.Cond → Bool} (h1 : L.all (fun c => isCode c || P c) = true) (h2 : ∀ c ∈ L.filter isCode, P c = true) : L.all P = true := by
  refine List.all_eq_true.mpr fun c hc => ?_
  have h := List.all_eq_true.mp h1 c hc
  rcases Bool.eq_false_or_eq_true (isCode c) with hi | hi
  · exact h2 c (List.mem_filter.mpr ⟨hc, hi⟩)
  · simpa [hi] using h
set_option maxRecDepth 65536 in
theorem w_c0 : (Jvm.Cond.code x code maxLocals ret).before args0 about1 = true := code_word (m := ⟨1, 2⟩) (meth := k1m2) (c := k1c2) (by decide +kernel) rfl rfl rfl (by decide +kernel)
set_option maxRecDepth 65536 in
theorem w_c1 : (Jvm.Cond.code ({ cls := "com/example/bounded_array/boundedarray/regex/BuilderAddPinLaw", name := "cp", desc := "(IZ)I" } : Jvm.MethodName) method_2_code (2 : Nat) (Option.some Jvm.ClassFile.FieldType.int)).before args0 about1 = true := code_word (m := ⟨1, 1⟩) (meth := k1m1) (c := k1c1) (by decide +kernel) rfl rfl rfl (by decide +kernel)
set_option maxRecDepth 65536 in
theorem w_c2 : (Jvm.Cond.code ({ cls := "java/lang/Math", name := "min", desc := "(II)I" } : Jvm.MethodName) jdk_29_method_69_code (2 : Nat) (Option.some Jvm.ClassFile.FieldType.int)).before args0 about1 = true := code_word (m := ⟨2, 2⟩) (meth := k2m2) (c := k2c2) (by decide +kernel) rfl rfl rfl (by decide +kernel)
set_option maxRecDepth 65536 in
theorem w_c3 : (Jvm.Cond.code ({ cls := "java/lang/Math", name := "max", desc := "(II)I" } : Jvm.MethodName) jdk_29_method_65_code (2 : Nat) (Option.some Jvm.ClassFile.FieldType.int)).before args0 about1 = true := code_word (m := ⟨2, 1⟩) (meth := k2m1) (c := k2c1) (by decide +kernel) rfl rfl rfl (by decide +kernel)
set_option maxRecDepth 65536 in
theorem w_c4 : (Jvm.Cond.code ({ cls := "com/example/bounded_array/boundedarray/regex/CodePointSet$Builder", name := "<init>", desc := "()V" } : Jvm.MethodName) prog_13_method_1_code (1 : Nat) (Option.none : Option Jvm.ClassFile.FieldType)).before args0 about1 = true := code_word (m := ⟨3, 0⟩) (meth := k3m0) (c := k3c0) (by decide +kernel) rfl rfl rfl (by decide +kernel)
set_option maxRecDepth 65536 in
theorem w_c5 : (Jvm.Cond.code ({ cls := "java/lang/Object", name := "<init>", desc := "()V" } : Jvm.MethodName) object_method_1_code (1 : Nat) (Option.none : Option Jvm.ClassFile.FieldType)).before args0 about1 = true := code_word (m := ⟨0, 0⟩) (meth := k0m0) (c := k0c0) (by decide +kernel) rfl rfl rfl (by decide +kernel)
set_option maxRecDepth 65536 in
theorem w_c6 : (Jvm.Cond.code ({ cls := "java/util/IdentityHashMap", name := "<init>", desc := "()V" } : Jvm.MethodName) jdk_2581_method_3_code (1 : Nat) (Option.none : Option Jvm.ClassFile.FieldType)).before args0 about1 = true := code_word (m := ⟨8, 0⟩) (meth := k8m0) (c := k8c0) (by decide +kernel) rfl rfl rfl (by decide +kernel)
set_option maxRecDepth 65536 in
theorem w_c7 : (Jvm.Cond.code ({ cls := "java/util/AbstractMap", name := "<init>", desc := "()V" } : Jvm.MethodName) jdk_71_method_1_code (1 : Nat) (Option.none : Option Jvm.ClassFile.FieldType)).before args0 about1 = true := code_word (m := ⟨5, 0⟩) (meth := k5m0) (c := k5c0) (by decide +kernel) rfl rfl rfl (by decide +kernel)
set_option maxRecDepth 65536 in
theorem w_c8 : (Jvm.Cond.code ({ cls := "java/util/IdentityHashMap", name := "init", desc := "(I)V" } : Jvm.MethodName) jdk_2581_method_6_code (2 : Nat) (Option.none : Option Jvm.ClassFile.FieldType)).before args0 about1 = true := code_word (m := ⟨8, 1⟩) (meth := k8m1) (c := k8c1) (by decide +kernel) rfl rfl rfl (by decide +kernel)
set_option maxRecDepth 65536 in
theorem w_c9 : (Jvm.Cond.code ({ cls := "java/util/Collections", name := "newSetFromMap", desc := "(Ljava/util/Map;)Ljava/util/Set;" } : Jvm.MethodName) jdk_79_method_85_code (1 : Nat) (Option.some (Jvm.ClassFile.FieldType.object "java/util/Set"))).before args0 about1 = true := code_word (m := ⟨9, 1⟩) (meth := k9m1) (c := k9c1) (by decide +kernel) rfl rfl rfl (by decide +kernel)
set_option maxRecDepth 65536 in
theorem w_c10 : (Jvm.Cond.code ({ cls := "java/util/IdentityHashMap", name := "isEmpty", desc := "()Z" } : Jvm.MethodName) jdk_2581_method_9_code (1 : Nat) (Option.some Jvm.ClassFile.FieldType.boolean)).before args0 about1 = true := code_word (m := ⟨8, 2⟩) (meth := k8m2) (c := k8c2) (by decide +kernel) rfl rfl rfl (by decide +kernel)
set_option maxRecDepth 65536 in
theorem w_c11 : (Jvm.Cond.code ({ cls := "java/util/Collections$SetFromMap", name := "<init>", desc := "(Ljava/util/Map;)V" } : Jvm.MethodName) jdk_2486_method_1_code (2 : Nat) (Option.none : Option Jvm.ClassFile.FieldType)).before args0 about1 = true := code_word (m := ⟨15, 0⟩) (meth := k15m0) (c := k15c0) (by decide +kernel) rfl rfl rfl (by decide +kernel)
set_option maxRecDepth 65536 in
theorem w_c12 : (Jvm.Cond.code ({ cls := "java/util/AbstractSet", name := "<init>", desc := "()V" } : Jvm.MethodName) jdk_91_method_1_code (1 : Nat) (Option.none : Option Jvm.ClassFile.FieldType)).before args0 about1 = true := code_word (m := ⟨14, 0⟩) (meth := k14m0) (c := k14c0) (by decide +kernel) rfl rfl rfl (by decide +kernel)
set_option maxRecDepth 65536 in
theorem w_c13 : (Jvm.Cond.code ({ cls := "java/util/AbstractCollection", name := "<init>", desc := "()V" } : Jvm.MethodName) jdk_22_method_1_code (1 : Nat) (Option.none : Option Jvm.ClassFile.FieldType)).before args0 about1 = true := code_word (m := ⟨12, 0⟩) (meth := k12m0) (c := k12c0) (by decide +kernel) rfl rfl rfl (by decide +kernel)
set_option maxRecDepth 65536 in
theorem w_c14 : (Jvm.Cond.code ({ cls := "java/util/IdentityHashMap", name := "keySet", desc := "()Ljava/util/Set;" } : Jvm.MethodName) jdk_2581_method_26_code (2 : Nat) (Option.some (Jvm.ClassFile.FieldType.object "java/util/Set"))).before args0 about1 = true := code_word (m := ⟨8, 3⟩) (meth := k8m3) (c := k8c3) (by decide +kernel) rfl rfl rfl (by decide +kernel)
set_option maxRecDepth 65536 in
theorem w_c15 : (Jvm.Cond.code ({ cls := "java/util/IdentityHashMap$KeySet", name := "<init>", desc := "(Ljava/util/IdentityHashMap;)V" } : Jvm.MethodName) jdk_2589_method_1_code (2 : Nat) (Option.none : Option Jvm.ClassFile.FieldType)).before args0 about1 = true := code_word (m := ⟨16, 0⟩) (meth := k16m0) (c := k16c0) (by decide +kernel) rfl rfl rfl (by decide +kernel)
set_option maxRecDepth 65536 in
theorem w_c16 : (Jvm.Cond.code ({ cls := "com/example/bounded_array/boundedarray/regex/CodePointSet$Builder", name := "add", desc := "(II)V" } : Jvm.MethodName) prog_13_method_2_code (3 : Nat) (Option.none : Option Jvm.ClassFile.FieldType)).before args0 about1 = true := code_word (m := ⟨3, 1⟩) (meth := k3m1) (c := k3c1) (by decide +kernel) rfl rfl rfl (by decide +kernel)
set_option maxRecDepth 65536 in
theorem w_c17 : (Jvm.Cond.code ({ cls := "com/example/bounded_array/boundedarray/regex/CodePointSet$Builder", name := "makeRoom", desc := "(I)V" } : Jvm.MethodName) prog_13_method_4_code (2 : Nat) (Option.none : Option Jvm.ClassFile.FieldType)).before args0 about1 = true := code_word (m := ⟨3, 2⟩) (meth := k3m2) (c := k3c2) (by decide +kernel) rfl rfl rfl (by decide +kernel)
set_option maxRecDepth 65536 in
theorem w_c18 : (Jvm.Cond.code ({ cls := "com/example/bounded_array/boundedarray/regex/CodePointSet$Builder", name := "build", desc := "()Lcom/example/bounded_array/boundedarray/regex/CodePointSet;" } : Jvm.MethodName) prog_13_method_5_code (11 : Nat) (Option.some (Jvm.ClassFile.FieldType.object "com/example/bounded_array/boundedarray/regex/CodePointSet"))).before args0 about1 = true := code_word (m := ⟨3, 3⟩) (meth := k3m3) (c := k3c3) (by decide +kernel) rfl rfl rfl (by decide +kernel)
set_option maxRecDepth 65536 in
theorem w_c19 : (Jvm.Cond.code ({ cls := "java/util/Arrays", name := "sort", desc := "([J)V" } : Jvm.MethodName) jdk_65_method_4_code (1 : Nat) (Option.none : Option Jvm.ClassFile.FieldType)).before args0 about1 = true := code_word (m := ⟨17, 1⟩) (meth := k17m1) (c := k17c1) (by decide +kernel) rfl rfl rfl (by decide +kernel)
set_option maxRecDepth 65536 in
theorem w_c20 : (Jvm.Cond.code ({ cls := "java/util/DualPivotQuicksort", name := "sort", desc := "([JIII)V" } : Jvm.MethodName) jdk_2529_method_12_code (7 : Nat) (Option.none : Option Jvm.ClassFile.FieldType)).before args0 about1 = true := code_word (m := ⟨18, 1⟩) (meth := k18m1) (c := k18c1) (by decide +kernel) rfl rfl rfl (by decide +kernel)
set_option maxRecDepth 65536 in
theorem w_c21 : (Jvm.Cond.code ({ cls := "java/util/DualPivotQuicksort", name := "sort", desc := "(Ljava/util/DualPivotQuicksort$Sorter;[JIII)V" } : Jvm.MethodName) jdk_2529_method_13_code (25 : Nat) (Option.none : Option Jvm.ClassFile.FieldType)).before args0 about1 = true := code_word (m := ⟨18, 2⟩) (meth := k18m2) (c := k18c2) (by decide +kernel) rfl rfl rfl (by decide +kernel)
set_option maxRecDepth 65536 in
theorem w_c22 : (Jvm.Cond.code ({ cls := "java/util/DualPivotQuicksort", name := "insertionSort", desc := "([JII)V" } : Jvm.MethodName) jdk_2529_method_15_code (7 : Nat) (Option.none : Option Jvm.ClassFile.FieldType)).before args0 about1 = true := code_word (m := ⟨18, 3⟩) (meth := k18m3) (c := k18c3) (by decide +kernel) rfl rfl rfl (by decide +kernel)
set_option maxRecDepth 65536 in
theorem w_c23 : (Jvm.Cond.code ({ cls := "java/util/Arrays", name := "copyOf", desc := "([II)[I" } : Jvm.MethodName) jdk_65_method_123_code (3 : Nat) (Option.some (Jvm.ClassFile.FieldType.array Jvm.ClassFile.FieldType.int))).before args0 about1 = true := code_word (m := ⟨17, 2⟩) (meth := k17m2) (c := k17c2) (by decide +kernel) rfl rfl rfl (by decide +kernel)
set_option maxRecDepth 65536 in
theorem w_c24 : (Jvm.Cond.code ({ cls := "com/example/bounded_array/boundedarray/regex/CodePointSet", name := "<init>", desc := "([I)V" } : Jvm.MethodName) prog_12_method_1_code (9 : Nat) (Option.none : Option Jvm.ClassFile.FieldType)).before args0 about1 = true := code_word (m := ⟨19, 0⟩) (meth := k19m0) (c := k19c0) (by decide +kernel) rfl rfl rfl (by decide +kernel)
set_option maxRecDepth 65536 in
theorem w_c25 : (Jvm.Cond.code ({ cls := "java/util/Arrays", name := "hashCode", desc := "([I)I" } : Jvm.MethodName) jdk_65_method_150_code (1 : Nat) (Option.some Jvm.ClassFile.FieldType.int)).before args0 about1 = true := code_word (m := ⟨17, 3⟩) (meth := k17m3) (c := k17c3) (by decide +kernel) rfl rfl rfl (by decide +kernel)
set_option maxRecDepth 65536 in
theorem w_c26 : (Jvm.Cond.code ({ cls := "jdk/internal/util/ArraysSupport", name := "vectorizedHashCode", desc := "(Ljava/lang/Object;IIII)I" } : Jvm.MethodName) jdk_48_method_4_code (5 : Nat) (Option.some Jvm.ClassFile.FieldType.int)).before args0 about1 = true := code_word (m := ⟨21, 1⟩) (meth := k21m1) (c := k21c1) (by decide +kernel) rfl rfl rfl (by decide +kernel)
set_option maxRecDepth 65536 in
theorem w_c27 : (Jvm.Cond.code ({ cls := "jdk/internal/util/ArraysSupport", name := "hashCode", desc := "(I[III)I" } : Jvm.MethodName) jdk_48_method_9_code (6 : Nat) (Option.some Jvm.ClassFile.FieldType.int)).before args0 about1 = true := code_word (m := ⟨21, 2⟩) (meth := k21m2) (c := k21c2) (by decide +kernel) rfl rfl rfl (by decide +kernel)
set_option maxRecDepth 65536 in
theorem w_c28 : (Jvm.Cond.code ({ cls := "com/example/bounded_array/boundedarray/regex/CodePointSet", name := "ranges", desc := "()I" } : Jvm.MethodName) prog_12_method_6_code (1 : Nat) (Option.some Jvm.ClassFile.FieldType.int)).before args0 about1 = true := code_word (m := ⟨19, 1⟩) (meth := k19m1) (c := k19c1) (by decide +kernel) rfl rfl rfl (by decide +kernel)
set_option maxRecDepth 65536 in
theorem w_c29 : (Jvm.Cond.code ({ cls := "com/example/bounded_array/boundedarray/regex/CodePointSet", name := "first", desc := "(I)I" } : Jvm.MethodName) prog_12_method_7_code (2 : Nat) (Option.some Jvm.ClassFile.FieldType.int)).before args0 about1 = true := code_word (m := ⟨19, 2⟩) (meth := k19m2) (c := k19c2) (by decide +kernel) rfl rfl rfl (by decide +kernel)
set_option maxRecDepth 65536 in
theorem w_c30 : (Jvm.Cond.code ({ cls := "com/example/bounded_array/boundedarray/regex/CodePointSet", name := "last", desc := "(I)I" } : Jvm.MethodName) prog_12_method_8_code (2 : Nat) (Option.some Jvm.ClassFile.FieldType.int)).before args0 about1 = true := code_word (m := ⟨19, 3⟩) (meth := k19m3) (c := k19c3) (by decide +kernel) rfl rfl rfl (by decide +kernel)
def codes1 : List Jvm.Cond := [Jvm.Cond.code x code maxLocals ret, Jvm.Cond.code ({ cls := "com/example/bounded_array/boundedarray/regex/BuilderAddPinLaw", name := "cp", desc := "(IZ)I" } : Jvm.MethodName) method_2_code (2 : Nat) (Option.some Jvm.ClassFile.FieldType.int), Jvm.Cond.code ({ cls := "java/lang/Math", name := "min", desc := "(II)I" } : Jvm.MethodName) jdk_29_method_69_code (2 : Nat) (Option.some Jvm.ClassFile.FieldType.int), Jvm.Cond.code ({ cls := "java/lang/Math", name := "max", desc := "(II)I" } : Jvm.MethodName) jdk_29_method_65_code (2 : Nat) (Option.some Jvm.ClassFile.FieldType.int), Jvm.Cond.code ({ cls := "com/example/bounded_array/boundedarray/regex/CodePointSet$Builder", name := "<init>", desc := "()V" } : Jvm.MethodName) prog_13_method_1_code (1 : Nat) (Option.none : Option Jvm.ClassFile.FieldType), Jvm.Cond.code ({ cls := "java/lang/Object", name := "<init>", desc := "()V" } : Jvm.MethodName) object_method_1_code (1 : Nat) (Option.none : Option Jvm.ClassFile.FieldType), Jvm.Cond.code ({ cls := "java/util/IdentityHashMap", name := "<init>", desc := "()V" } : Jvm.MethodName) jdk_2581_method_3_code (1 : Nat) (Option.none : Option Jvm.ClassFile.FieldType), Jvm.Cond.code ({ cls := "java/util/AbstractMap", name := "<init>", desc := "()V" } : Jvm.MethodName) jdk_71_method_1_code (1 : Nat) (Option.none : Option Jvm.ClassFile.FieldType), Jvm.Cond.code ({ cls := "java/util/IdentityHashMap", name := "init", desc := "(I)V" } : Jvm.MethodName) jdk_2581_method_6_code (2 : Nat) (Option.none : Option Jvm.ClassFile.FieldType), Jvm.Cond.code ({ cls := "java/util/Collections", name := "newSetFromMap", desc := "(Ljava/util/Map;)Ljava/util/Set;" } : Jvm.MethodName) jdk_79_method_85_code (1 : Nat) (Option.some (Jvm.ClassFile.FieldType.object "java/util/Set")), Jvm.Cond.code ({ cls := "java/util/IdentityHashMap", name := "isEmpty", desc := "()Z" } : Jvm.MethodName) jdk_2581_method_9_code (1 : Nat) (Option.some Jvm.ClassFile.FieldType.boolean), Jvm.Cond.code ({ cls := "java/util/Collections$SetFromMap", name := "<init>", desc := "(Ljava/util/Map;)V" } : Jvm.MethodName) jdk_2486_method_1_code (2 : Nat) (Option.none : Option Jvm.ClassFile.FieldType), Jvm.Cond.code ({ cls := "java/util/AbstractSet", name := "<init>", desc := "()V" } : Jvm.MethodName) jdk_91_method_1_code (1 : Nat) (Option.none : Option Jvm.ClassFile.FieldType), Jvm.Cond.code ({ cls := "java/util/AbstractCollection", name := "<init>", desc := "()V" } : Jvm.MethodName) jdk_22_method_1_code (1 : Nat) (Option.none : Option Jvm.ClassFile.FieldType), Jvm.Cond.code ({ cls := "java/util/IdentityHashMap", name := "keySet", desc := "()Ljava/util/Set;" } : Jvm.MethodName) jdk_2581_method_26_code (2 : Nat) (Option.some (Jvm.ClassFile.FieldType.object "java/util/Set")), Jvm.Cond.code ({ cls := "java/util/IdentityHashMap$KeySet", name := "<init>", desc := "(Ljava/util/IdentityHashMap;)V" } : Jvm.MethodName) jdk_2589_method_1_code (2 : Nat) (Option.none : Option Jvm.ClassFile.FieldType), Jvm.Cond.code ({ cls := "com/example/bounded_array/boundedarray/regex/CodePointSet$Builder", name := "add", desc := "(II)V" } : Jvm.MethodName) prog_13_method_2_code (3 : Nat) (Option.none : Option Jvm.ClassFile.FieldType), Jvm.Cond.code ({ cls := "com/example/bounded_array/boundedarray/regex/CodePointSet$Builder", name := "makeRoom", desc := "(I)V" } : Jvm.MethodName) prog_13_method_4_code (2 : Nat) (Option.none : Option Jvm.ClassFile.FieldType), Jvm.Cond.code ({ cls := "com/example/bounded_array/boundedarray/regex/CodePointSet$Builder", name := "build", desc := "()Lcom/example/bounded_array/boundedarray/regex/CodePointSet;" } : Jvm.MethodName) prog_13_method_5_code (11 : Nat) (Option.some (Jvm.ClassFile.FieldType.object "com/example/bounded_array/boundedarray/regex/CodePointSet")), Jvm.Cond.code ({ cls := "java/util/Arrays", name := "sort", desc := "([J)V" } : Jvm.MethodName) jdk_65_method_4_code (1 : Nat) (Option.none : Option Jvm.ClassFile.FieldType), Jvm.Cond.code ({ cls := "java/util/DualPivotQuicksort", name := "sort", desc := "([JIII)V" } : Jvm.MethodName) jdk_2529_method_12_code (7 : Nat) (Option.none : Option Jvm.ClassFile.FieldType), Jvm.Cond.code ({ cls := "java/util/DualPivotQuicksort", name := "sort", desc := "(Ljava/util/DualPivotQuicksort$Sorter;[JIII)V" } : Jvm.MethodName) jdk_2529_method_13_code (25 : Nat) (Option.none : Option Jvm.ClassFile.FieldType), Jvm.Cond.code ({ cls := "java/util/DualPivotQuicksort", name := "insertionSort", desc := "([JII)V" } : Jvm.MethodName) jdk_2529_method_15_code (7 : Nat) (Option.none : Option Jvm.ClassFile.FieldType), Jvm.Cond.code ({ cls := "java/util/Arrays", name := "copyOf", desc := "([II)[I" } : Jvm.MethodName) jdk_65_method_123_code (3 : Nat) (Option.some (Jvm.ClassFile.FieldType.array Jvm.ClassFile.FieldType.int)), Jvm.Cond.code ({ cls := "com/example/bounded_array/boundedarray/regex/CodePointSet", name := "<init>", desc := "([I)V" } : Jvm.MethodName) prog_12_method_1_code (9 : Nat) (Option.none : Option Jvm.ClassFile.FieldType), Jvm.Cond.code ({ cls := "java/util/Arrays", name := "hashCode", desc := "([I)I" } : Jvm.MethodName) jdk_65_method_150_code (1 : Nat) (Option.some Jvm.ClassFile.FieldType.int), Jvm.Cond.code ({ cls := "jdk/internal/util/ArraysSupport", name := "vectorizedHashCode", desc := "(Ljava/lang/Object;IIII)I" } : Jvm.MethodName) jdk_48_method_4_code (5 : Nat) (Option.some Jvm.ClassFile.FieldType.int), Jvm.Cond.code ({ cls := "jdk/internal/util/ArraysSupport", name := "hashCode", desc := "(I[III)I" } : Jvm.MethodName) jdk_48_method_9_code (6 : Nat) (Option.some Jvm.ClassFile.FieldType.int), Jvm.Cond.code ({ cls := "com/example/bounded_array/boundedarray/regex/CodePointSet", name := "ranges", desc := "()I" } : Jvm.MethodName) prog_12_method_6_code (1 : Nat) (Option.some Jvm.ClassFile.FieldType.int), Jvm.Cond.code ({ cls := "com/example/bounded_array/boundedarray/regex/CodePointSet", name := "first", desc := "(I)I" } : Jvm.MethodName) prog_12_method_7_code (2 : Nat) (Option.some Jvm.ClassFile.FieldType.int), Jvm.Cond.code ({ cls := "com/example/bounded_array/boundedarray/regex/CodePointSet", name := "last", desc := "(I)I" } : Jvm.MethodName) prog_12_method_8_code (2 : Nat) (Option.some Jvm.ClassFile.FieldType.int)]
set_option maxRecDepth 65536 in
theorem codes_eq : words1.filter isCode = codes1 := rfl
theorem w_codes : ∀ c ∈ words1.filter isCode, c.before args0 about1 = true := by
  rw [codes_eq]
  intro c hc
  simp only [codes1, List.mem_cons, List.not_mem_nil, or_false] at hc
  rcases hc with rfl | rfl | rfl | rfl | rfl | rfl | rfl | rfl | rfl | rfl | rfl | rfl | rfl | rfl | rfl | rfl | rfl | rfl | rfl | rfl | rfl | rfl | rfl | rfl | rfl | rfl | rfl | rfl | rfl | rfl | rfl
  · exact w_c0
  · exact w_c1
  · exact w_c2
  · exact w_c3
  · exact w_c4
  · exact w_c5
  · exact w_c6
  · exact w_c7
  · exact w_c8
  · exact w_c9
  · exact w_c10
  · exact w_c11
  · exact w_c12
  · exact w_c13
  · exact w_c14
  · exact w_c15
  · exact w_c16
  · exact w_c17
  · exact w_c18
  · exact w_c19
  · exact w_c20
  · exact w_c21
  · exact w_c22
  · exact w_c23
  · exact w_c24
  · exact w_c25
  · exact w_c26
  · exact w_c27
  · exact w_c28
  · exact w_c29
  · exact w_c30
set_option maxRecDepth 65536 in
theorem w_t1 : (words1.take 24).all (fun c => isCode c || c.before args0 about1) = true := by decide +kernel
set_option maxRecDepth 65536 in
theorem w_t2 : ((words1.drop 24).take 24).all (fun c => isCode c || c.before args0 about1) = true := by decide +kernel
set_option maxRecDepth 65536 in
theorem w_t3 : (((words1.drop 24).drop 24).take 24).all (fun c => isCode c || c.before args0 about1) = true := by decide +kernel
set_option maxRecDepth 65536 in
theorem w_t4 : ((((words1.drop 24).drop 24).drop 24).take 24).all (fun c => isCode c || c.before args0 about1) = true := by decide +kernel
set_option maxRecDepth 65536 in
theorem w_t5 : (((((words1.drop 24).drop 24).drop 24).drop 24).take 24).all (fun c => isCode c || c.before args0 about1) = true := by decide +kernel
set_option maxRecDepth 65536 in
theorem w_t6 : ((((((words1.drop 24).drop 24).drop 24).drop 24).drop 24).take 24).all (fun c => isCode c || c.before args0 about1) = true := by decide +kernel
set_option maxRecDepth 65536 in
theorem w_t7 : (((((((words1.drop 24).drop 24).drop 24).drop 24).drop 24).drop 24).take 24).all (fun c => isCode c || c.before args0 about1) = true := by decide +kernel
set_option maxRecDepth 65536 in
theorem w_t8 : ((((((((words1.drop 24).drop 24).drop 24).drop 24).drop 24).drop 24).drop 24).take 24).all (fun c => isCode c || c.before args0 about1) = true := by decide +kernel
set_option maxRecDepth 65536 in
theorem w_t9 : ((((((((words1.drop 24).drop 24).drop 24).drop 24).drop 24).drop 24).drop 24).drop 24).all (fun c => isCode c || c.before args0 about1) = true := by decide +kernel
theorem w_tables : (allAtoms (Jvm.Cond.code x code maxLocals ret :: tables_1)).before args0 about1 = true := by
  rw [allAtoms_all]
  show words1.all (fun c => c.before args0 about1) = true
  refine all_split ?_ w_codes
  rw [← List.take_append_drop 24 words1, List.all_append, w_t1, ← List.take_append_drop 24 (words1.drop 24), List.all_append, w_t2, ← List.take_append_drop 24 ((words1.drop 24).drop 24), List.all_append, w_t3, ← List.take_append_drop 24 (((words1.drop 24).drop 24).drop 24), List.all_append, w_t4, ← List.take_append_drop 24 ((((words1.drop 24).drop 24).drop 24).drop 24), List.all_append, w_t5, ← List.take_append_drop 24 (((((words1.drop 24).drop 24).drop 24).drop 24).drop 24), List.all_append, w_t6, ← List.take_append_drop 24 ((((((words1.drop 24).drop 24).drop 24).drop 24).drop 24).drop 24), List.all_append, w_t7, ← List.take_append_drop 24 (((((((words1.drop 24).drop 24).drop 24).drop 24).drop 24).drop 24).drop 24), List.all_append, w_t8, w_t9]
  rfl
set_option maxRecDepth 65536 in
theorem w_case : (Jvm.Cond.and given_1 narrow_1).before args0 about1 = true := by decide +kernel
theorem w_applies : (headSpec (Jvm.Cond.code x code maxLocals ret :: tables_1) room_1).applies x e0.platform about1 = true :=
  (Spec.applies_iff w_frames).mpr ⟨w_running, w_runnable, w_alone, w_named, w_hears, w_ripe, w_room, w_tables⟩
theorem atStart : AtStart classFile x code maxLocals ret World_1 tables_1 room_1 Calls_1 rest_1 Pre_1 launch0 p0 e0 about1 theMethod args0 below0 :=
  ⟨lists_1, trivial, launch0.admits_env _ _ _, launch0.least_env, fairChoices_fair.cas, fairChoices_fair.clock, w_frames, w_args, w_heap, w_applies, trivial, trivial, w_case⟩
end start1
theorem witness_1 : WitnessClaimed_1 := ⟨start1.p0, start1.e0, start1.about1, start1.theMethod, start1.args0, start1.below0, start1.atStart⟩
end Jvm.Pilot.@@N@@
