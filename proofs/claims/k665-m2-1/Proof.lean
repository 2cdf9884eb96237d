import JvmDerived
import JvmDerived.Pilot.@@N@@Statement
import JvmDerived.Pilot.@@N@@Code
set_option linter.unusedVariables false
set_option linter.unusedSimpArgs false
namespace Jvm.Pilot.@@N@@
open Jvm Jvm.ClassFile Sem Op Lib Jvm.Free Jvm.Stand Jvm.LawKit Jvm.RoadKit Bundle Jvm.Pilot.@@N@@.Jvm.D
section Own
variable {p : Program} {l : Launch} {e : Env} {R : Room} {s : State} {m : MethodId} {args : Array Value} {below : List Frame} {meth : Method} {c : Code} {T : State} {cells slots : Nat} {Z : State} {a0 : Array Value} {h h' h0 : Heap} {ws ws' : List Addr}
  {own nm : String} {bytes : ByteArray} {maxL : Nat} {rt : Option FieldType} {W : State → Outcome → Prop} {pc : Nat} {Ls : Array Slot} {rest : List Value}
/-- the run from A ends as W says -/
def OwnDone (p : Program) (e : Env) (below : List Frame) (W : State → Outcome → Prop) (A : State) : Prop :=
  ∃ s₂ o, Steps p.tables e below A s₂ ∧ s₂.status = .running ∧ Ended s₂ below o ∧ W s₂ o
theorem OwnDone.go {A B : State} (h : ∀ t, Steps p.tables e below A t → Steps p.tables e below B t) (k : OwnDone p e below W A) : OwnDone p e below W B := by
  obtain ⟨s₂, o, h1, h2⟩ := k
  exact ⟨s₂, o, h _ h1, h2⟩
/-- how a body ends: what it returns and leaves (Q), and that it wrote nothing older than its start but the objects ws -/
def OwnEnds (s Z : State) (ws : List Addr) (h0 : Heap) (Q : Option Value → Heap → Prop) (k n : Nat) (s₂ : State) (o : Outcome) : Prop :=
  ∃ v L, o = .returned v ∧ (Q v s₂.heap ∧ Keep h0 s₂.heap ws ∧ ∀ y ∈ L, y.base ∈ ws ∨ h0.size ≤ y.base) ∧ FrameEnd s o s₂ L k n
/-- the surroundings of a walk -/
def OwnCx (p : Program) (Z s : State) (m : MethodId) (meth : Method) (c : Code) (own nm : String) (bytes : ByteArray) (maxL : Nat) (rt : Option FieldType) : Prop :=
  p.tables.exec = Jvm.exec ∧ Z.Warmed39 s.vm ∧ s.vm.findClass own = some m.cls ∧ meth.name = nm ∧ c.code = bytes ∧ c.maxLocals = maxL ∧ meth.sig.returnType = rt ∧ meth.locks = false
/-- where the walk stands -/
def OwnPos (p : Program) (l : Launch) (e : Env) (R : Room) (s : State) (m : MethodId) (args : Array Value) (below : List Frame) (meth : Method) (c : Code) (Z : State) (ws : List Addr) (h0 : Heap) (T : State) (h : Heap) (cells slots : Nat) : Prop :=
  ∃ locs, Stand p l e R s m args below meth c T locs cells slots ∧ T.heap = h ∧ s.heap = h0 ∧ (∀ y ∈ locs, y.base ∈ ws ∨ h0.size ≤ y.base) ∧ Ext Z.heap h0 ∧ ∀ a ∈ ws, Z.heap.size ≤ a
theorem OwnPos.here (P : OwnPos p l e R s m args below meth c Z ws h0 T h cells slots) : At T m c below := by
  obtain ⟨_, X, _⟩ := P; exact X.here
theorem OwnPos.keep (P : OwnPos p l e R s m args below meth c Z ws h0 T h cells slots) : Keep h0 h ws := by
  obtain ⟨locs, X, rfl, rfl, N, -, -⟩ := P
  have hs := X.same
  have far : ∀ (x : Addr) (c : Cell), s.heap[x]? = some c → x ∉ ws → ∀ i, (⟨x, i⟩ : Loc) ∉ locs := fun x c hx hn i hi => by
    rcases N _ hi with q | q
    · exact hn q
    · exact absurd (Array.getElem?_eq_some_iff.mp hx).1 (Nat.not_lt.mpr q)
  refine ⟨hs.2.1, fun x c hx hn => ?_, fun x c hx => ?_⟩
  · obtain ⟨c', h1, h2, h3, h4⟩ := hs.2.2.2.2.2 x c hx
    have e1 : c'.slots = c.slots := by
      apply Array.ext_getElem?
      intro i
      exact h4 i (far x c hx hn i)
    have e2 : c' = c := by rw [h2, e1]
    exact e2 ▸ h1
  · obtain ⟨c', h1, h2, h3, h4⟩ := hs.2.2.2.2.2 x c hx
    exact ⟨c', h1, by rw [h2], by rw [h2], h3⟩
theorem OwnPos.old (P : OwnPos p l e R s m args below meth c Z ws h0 T h cells slots) : Ext Z.heap h := by
  have K := P.keep
  obtain ⟨locs, X, eT, e0, N, E0, G0⟩ := P
  refine ⟨Nat.le_trans E0.1 K.1, fun a c ha => K.2.1 a c (E0.2 a c ha) fun q => ?_⟩
  exact absurd (Array.getElem?_eq_some_iff.mp ha).1 (Nat.not_lt.mpr (G0 a q))
theorem OwnPos.ge (P : OwnPos p l e R s m args below meth c Z ws h0 T h cells slots) : Z.heap.size ≤ h.size := P.old.1
/-- a method's contract -/
def OwnMeets (l : Launch) (y : MethodName) (bytes : ByteArray) (maxL : Nat) (rt : Option FieldType) (rm : Room) (Z : State) (ws : List Addr) (as : Array Value) (h0 : Heap) (Q : Option Value → Heap → Prop) : Prop :=
  ∀ wz, MetFree l y (head1 (Cond.code y bytes maxL rt :: wz) rm) (fun a U => a = as ∧ Z.Warmed39 U.vm ∧ U.heap = h0) (fun _ _ _ _ _ => True) (fun _ U o U' => ∃ v L, o = .returned v ∧ (Q v U'.heap ∧ Keep h0 U'.heap ws ∧ ∀ y ∈ L, y.base ∈ ws ∨ h0.size ≤ y.base) ∧ FrameEnd U o U' L rm.cells rm.slots)
theorem OwnMeets.of {y : MethodName} {rm : Room} {as : Array Value} {Q : Option Value → Heap → Prop} (hp : plainFor y = true) (hE : Ext Z.heap h0) (hG : ∀ a ∈ ws, Z.heap.size ≤ a)
    (body : ∀ p e s m below meth c T, OwnCx p Z s m meth c y.cls y.name bytes maxL rt → OwnPos p l e rm s m as below meth c Z ws h0 T h0 0 0 → OwnDone p e below (OwnEnds s Z ws h0 Q rm.cells rm.slots) (T.setTop (entryFrame m as maxL))) :
    OwnMeets l y bytes maxL rt rm Z ws as h0 Q := by
  intro wz
  refine MetFree.of_bodySF hp hisR ?_
  intro p e s m args below meth c s₁ Bd hml hP hK
  obtain ⟨rfl, hZ, hh⟩ := hP
  exact body p e s m below meth c s₁ ⟨Bd.exec, hZ, findClass_of_methodNamed Bd.named, (name_of_methodNamed Bd.named Bd.method).1, Bd.bytes, hml, Bd.returns, Bd.notSynchronized⟩ ⟨_, Stand.of_body Bd, by rw [← hh, Bd.state]; rfl, hh, fun _ q => (nomatch q), hE, hG⟩

/-! the returns -/
theorem own_retN {Q : Option Value → Heap → Prop} {k n : Nat} {t : FieldType} {z z' : Int32} (C : OwnCx p Z s m meth c own nm bytes maxL (some t)) (P : OwnPos p l e R s m args below meth c Z ws h0 T h cells slots)
    (ht : t = .boolean ∨ t = .byte ∨ t = .char ∨ t = .short) (hz : nar t z = z') (hd : decode bytes pc = .ok (.ireturn, 1)) (hk : cells ≤ k) (hn : slots ≤ n) (hQ : Q (some (.int z')) h) :
    OwnDone p e below (OwnEnds s Z ws h0 Q k n) (T.setTop (mkF m pc Ls (.int z :: rest))) := by
  have kp := P.keep
  obtain ⟨hx, hZ, hown, hnm, hby, hml, hret, hlk⟩ := C
  obtain ⟨locs, X, eT, e0, N, E0, G0⟩ := P
  subst eT
  subst hz
  obtain ⟨fs, hr, hrun, hended, hW, hsame⟩ := X.leave (v := some (.int (nar t z))) (fun h => by rw [hret] at h; cases h) hlk
  exact ⟨_, _, Jvm.RoadKit.retN X hx hret ht (hb hby hd) hr, hrun, hended, _, _, rfl, ⟨hQ, kp, N⟩, ⟨_, rfl⟩, hW, hsame.mono hk hn⟩

theorem own_retI {Q : Option Value → Heap → Prop} {k n : Nat} {z : Int32} (C : OwnCx p Z s m meth c own nm bytes maxL (some .int)) (P : OwnPos p l e R s m args below meth c Z ws h0 T h cells slots)
    (hd : decode bytes pc = .ok (.ireturn, 1)) (hk : cells ≤ k) (hn : slots ≤ n) (hQ : Q (some (.int z)) h) :
    OwnDone p e below (OwnEnds s Z ws h0 Q k n) (T.setTop (mkF m pc Ls (.int z :: rest))) := by
  have kp := P.keep
  obtain ⟨hx, hZ, hown, hnm, hby, hml, hret, hlk⟩ := C
  obtain ⟨locs, X, eT, e0, N, E0, G0⟩ := P
  subst eT
  obtain ⟨fs, hr, hrun, hended, hW, hsame⟩ := X.leave (v := some (.int z)) (fun h => by rw [hret] at h; cases h) hlk
  exact ⟨_, _, retOut X hx hret rfl (Or.inl ⟨rfl, Or.inl rfl, z, rfl⟩) (hb hby hd) hr, hrun, hended, _, _, rfl, ⟨hQ, kp, N⟩, ⟨_, rfl⟩, hW, hsame.mono hk hn⟩

theorem own_retJ {Q : Option Value → Heap → Prop} {k n : Nat} {z : Int64} (C : OwnCx p Z s m meth c own nm bytes maxL (some .long)) (P : OwnPos p l e R s m args below meth c Z ws h0 T h cells slots)
    (hd : decode bytes pc = .ok (.lreturn, 1)) (hk : cells ≤ k) (hn : slots ≤ n) (hQ : Q (some (.long z)) h) :
    OwnDone p e below (OwnEnds s Z ws h0 Q k n) (T.setTop (mkF m pc Ls (.long z :: rest))) := by
  have kp := P.keep
  obtain ⟨hx, hZ, hown, hnm, hby, hml, hret, hlk⟩ := C
  obtain ⟨locs, X, eT, e0, N, E0, G0⟩ := P
  subst eT
  obtain ⟨fs, hr, hrun, hended, hW, hsame⟩ := X.leave (v := some (.long z)) (fun h => by rw [hret] at h; cases h) hlk
  exact ⟨_, _, retOut X hx hret rfl (Or.inr (Or.inl ⟨rfl, rfl, z, rfl⟩)) (hb hby hd) hr, hrun, hended, _, _, rfl, ⟨hQ, kp, N⟩, ⟨_, rfl⟩, hW, hsame.mono hk hn⟩

theorem own_retA {Q : Option Value → Heap → Prop} {k n : Nat} {w : Value} {t : FieldType} (C : OwnCx p Z s m meth c own nm bytes maxL (some t)) (P : OwnPos p l e R s m args below meth c Z ws h0 T h cells slots)
    (ht : t.isReference = true) (hw : w.isRef = true) (hd : decode bytes pc = .ok (.areturn, 1)) (hk : cells ≤ k) (hn : slots ≤ n) (hQ : Q (some w) h) :
    OwnDone p e below (OwnEnds s Z ws h0 Q k n) (T.setTop (mkF m pc Ls (w :: rest))) := by
  have kp := P.keep
  obtain ⟨hx, hZ, hown, hnm, hby, hml, hret, hlk⟩ := C
  obtain ⟨locs, X, eT, e0, N, E0, G0⟩ := P
  subst eT
  obtain ⟨fs, hr, hrun, hended, hW, hsame⟩ := X.leave (v := some w) (fun h => by rw [hret] at h; cases h) hlk
  have hnr : narrow t w = w := by cases t <;> first | (cases ht; done) | rfl
  exact ⟨_, _, retOut X hx hret hnr (Or.inr (Or.inr (Or.inr (Or.inr ⟨rfl, ht, hw⟩)))) (hb hby hd) hr, hrun, hended, _, _, rfl, ⟨hQ, kp, N⟩, ⟨_, rfl⟩, hW, hsame.mono hk hn⟩

theorem own_retV {Q : Option Value → Heap → Prop} {k n : Nat}  (C : OwnCx p Z s m meth c own nm bytes maxL none) (P : OwnPos p l e R s m args below meth c Z ws h0 T h cells slots)
    (hd : decode bytes pc = .ok (.return_, 1)) (hk : cells ≤ k) (hn : slots ≤ n) (hQ : Q (none) h) :
    OwnDone p e below (OwnEnds s Z ws h0 Q k n) (T.setTop (mkF m pc Ls [])) := by
  have kp := P.keep
  obtain ⟨hx, hZ, hown, hnm, hby, hml, hret, hlk⟩ := C
  obtain ⟨locs, X, eT, e0, N, E0, G0⟩ := P
  subst eT
  obtain ⟨fs, hr, hrun, hended, hW, hsame⟩ := X.leave (v := none) (fun _ => rfl) hlk
  exact ⟨_, _, X.returnOut hx hret (hb hby hd) hr, hrun, hended, _, _, rfl, ⟨hQ, kp, N⟩, ⟨_, rfl⟩, hW, hsame.mono hk hn⟩

/-! single steps that ask the tables or the heap -/
theorem own_ldc {target : State} {index : Nat} {v : Int32} (C : OwnCx p Z s m meth c own nm bytes maxL rt) (P : OwnPos p l e R s m args below meth c Z ws h0 T h cells slots)
    (w : (Cond.constant own index v).before a0 Z = true) (hd : decode bytes pc = .ok (.ldc index, 2))
    (k : Steps p.tables e below (T.setTop (mkF m (pc + 2) Ls (.int v :: rest))) target) : Steps p.tables e below (T.setTop (mkF m pc Ls rest)) target := by
  obtain ⟨hx, hZ, hown, hnm, hby, hml, hret, hlk⟩ := C
  obtain ⟨locs, X, eT, e0, N, E0, G0⟩ := P
  exact X.ldcInt hx hown (mvT hZ w) (g := mkF m pc Ls rest) rfl (hb hby hd) target k
theorem own_irem {target : State} {x y : Int32} (C : OwnCx p Z s m meth c own nm bytes maxL rt) (P : OwnPos p l e R s m args below meth c Z ws h0 T h cells slots)
    (hy : y ≠ 0) (hd : decode bytes pc = .ok (.irem, 1))
    (k : Steps p.tables e below (T.setTop (mkF m (pc + 1) Ls (.int (x % y) :: rest))) target) : Steps p.tables e below (T.setTop (mkF m pc Ls (.int y :: .int x :: rest))) target := by
  obtain ⟨hx, hZ, hown, hnm, hby, hml, hret, hlk⟩ := C
  obtain ⟨locs, X, eT, e0, N, E0, G0⟩ := P
  exact iremM X hx (g := mkF m pc Ls (.int y :: .int x :: rest)) rfl (hb hby hd) rfl hy k
theorem own_getF {R0 O n d host : String} {index : Nat} {a : Addr} {v : Value} (C : OwnCx p Z s m meth c own nm bytes maxL rt) (P : OwnPos p l e R s m args below meth c Z ws h0 T h cells slots)
    (w : (Cond.fieldLink own index R0 n d).before a0 Z = true ∨ (Cond.fieldLinkNest own index R0 n d host).before a0 Z = true) (via : Via Z R0 O n d) (F : Fld Z h a O n d v) (hd : decode bytes pc = .ok (.getfield index, 3))
    (K : ∀ T', OwnPos p l e R s m args below meth c Z ws h0 T' h cells slots → OwnDone p e below W (T'.setTop (mkF m (pc + 3) Ls (v :: rest)))) : OwnDone p e below W (T.setTop (mkF m pc Ls (.ref a :: rest))) := by
  obtain ⟨hx, hZ, hown, hnm, hby, hml, hret, hlk⟩ := C
  obtain ⟨locs, X, eT, e0, N, E0, G0⟩ := P
  obtain ⟨T', X', e', st⟩ := getF X hx hZ hown w via eT F (g := mkF m pc Ls (.ref a :: rest)) rfl rfl (hb hby hd)
  exact OwnDone.go st (K T' ⟨_, X', e', e0, N, E0, G0⟩)
theorem own_getS {R0 O n d host : String} {index : Nat} {v : Value} (C : OwnCx p Z s m meth c own nm bytes maxL rt) (P : OwnPos p l e R s m args below meth c Z ws h0 T h cells slots)
    (w : (Cond.fieldLink own index R0 n d).before a0 Z = true ∨ (Cond.fieldLinkNest own index R0 n d host).before a0 Z = true) (via : Via Z R0 O n d) (F : Sta Z Z.heap O n d v) (hd : decode bytes pc = .ok (.getstatic index, 3))
    (K : ∀ T', OwnPos p l e R s m args below meth c Z ws h0 T' h cells slots → OwnDone p e below W (T'.setTop (mkF m (pc + 3) Ls (v :: rest)))) : OwnDone p e below W (T.setTop (mkF m pc Ls rest)) := by
  have F := F.ext P.old
  obtain ⟨hx, hZ, hown, hnm, hby, hml, hret, hlk⟩ := C
  obtain ⟨locs, X, eT, e0, N, E0, G0⟩ := P
  obtain ⟨T', X', e', st⟩ := getS2 X hx hZ hown w via eT F (g := mkF m pc Ls rest) rfl (hb hby hd)
  exact OwnDone.go st (K T' ⟨_, X', e', e0, N, E0, G0⟩)
/-! calls, by the callee's contract -/
theorem own_callS {y : MethodName} {yb : ByteArray} {ym : Nat} {yr : Option FieldType} {rm : Room} {Q : Option Value → Heap → Prop} {index wd : Nat} {st : List Value} {as : List Value}
    (C : OwnCx p Z s m meth c own nm bytes maxL rt) (P : OwnPos p l e R s m args below meth c Z ws h0 T h cells slots)
    (w1 : (Cond.methodLink own index y).before a0 Z = true) (w2 : (Cond.static y).before a0 Z = true) (w3 : (Cond.initialized y.cls).before a0 Z = true) (w4 : (Cond.code y yb ym yr).before a0 Z = true)
    (hy : y.cls ≠ "java/lang/invoke/MethodHandle" ∧ y.cls ≠ "java/lang/invoke/VarHandle") (M : OwnMeets l y yb ym yr rm Z ws' as.toArray h Q) {ps : List FieldType} {pr : Option FieldType} (hpd : parseMethodDescriptor y.desc = some ⟨ps, pr⟩) (hlen : as.length = ps.length)
    (hst : st = as.reverse ++ rest) (hwd : (rest.map fun v => v.category).sum = wd) (hsz : Ls.size = maxL) (hd : decode bytes pc = .ok (.invokestatic index, 3))
    (hsub : ∀ a ∈ ws', a ∈ ws ∨ h0.size ≤ a) (hf : rm.frames + 1 ≤ R.frames) (hl : wd + (ym + 11) + rm.locals ≤ R.locals) (hc : cells + rm.cells ≤ R.cells) (hs : slots + rm.slots ≤ R.slots)
    (K : ∀ T' h' v, OwnPos p l e R s m args below meth c Z ws h0 T' h' (cells + rm.cells) (slots + rm.slots) → Keep h h' ws' → Q v h' → OwnDone p e below W (T'.setTop (mkF m (pc + 3) Ls (v.toList ++ rest)))) : OwnDone p e below W (T.setTop (mkF m pc Ls st)) := by
  have kp := P.keep
  obtain ⟨hx, hZ, hown, hnm, hby, hml, hret, hlk⟩ := C
  obtain ⟨locs, X, eT, e0, N, E0, G0⟩ := P
  obtain ⟨v, _, ⟨T', L', k', n'⟩, -, X', ⟨Lc, ⟨hQ, hK, NQ⟩, l1, l2, l3⟩, stp⟩ := Jvm.LawKit.callS X hx (y := y) hown (mvT hZ w1) (mvT hZ w2) (mvT hZ w3) (mvT hZ w4) hy (backOf (W := wd) (Q := fun v h2 L => Q v h2 ∧ Keep h h2 ws' ∧ ∀ y ∈ L, y.base ∈ ws' ∨ h.size ≤ y.base) (M []) hZ w4 w3 hf hl) (g := mkF m pc Ls st) rfl (by rw [hml]; exact hsz) (argsL := as) (rest := rest) (lenOf hpd hlen) hst (by show 2 * 0 + _ ≤ _; omega) (hb hby hd) (fun _ _ => ⟨rfl, eT, hc, hs⟩)
  dsimp only [Pt.U, Pt.locs, Pt.cells, Pt.slots] at X' l1 l2 l3 stp hQ hK
  subst l1 l2 l3
  have NN : ∀ y ∈ locs ++ Lc, y.base ∈ ws ∨ h0.size ≤ y.base := fun y hy => by
    rcases List.mem_append.mp hy with q | q
    · exact N y q
    · rcases NQ y q with q | q
      · exact hsub _ q
      · exact Or.inr (Nat.le_trans kp.1 q)
  exact OwnDone.go stp (K T' _ v ⟨_, X', rfl, e0, NN, E0, G0⟩ hK hQ)

theorem own_callV {y z : MethodName} {yb : ByteArray} {ym : Nat} {yr : Option FieldType} {rm : Room} {Q : Option Value → Heap → Prop} {index wd : Nat} {st : List Value} {as : List Value} {b : Addr} {CC : String}
    (C : OwnCx p Z s m meth c own nm bytes maxL rt) (P : OwnPos p l e R s m args below meth c Z ws h0 T h cells slots) (E : Exa Z h b CC)
    (w1 : (Cond.methodLink own index y).before a0 Z = true) (w2 : (Cond.declares y).before a0 Z = true) (nf : (Cond.selects y.cls y y).before a0 Z = true) (w5 : (Cond.selects CC y z).before a0 Z = true) (w6 : (Cond.instanceMethod z).before a0 Z = true) (w3 : (Cond.initialized z.cls).before a0 Z = true) (w4 : (Cond.code z yb ym yr).before a0 Z = true)
    (hy : y.cls ≠ "java/lang/invoke/MethodHandle" ∧ y.cls ≠ "java/lang/invoke/VarHandle") (M : OwnMeets l z yb ym yr rm Z ws' (.ref b :: as).toArray h Q) {ps : List FieldType} {pr : Option FieldType} (hpd : parseMethodDescriptor y.desc = some ⟨ps, pr⟩) (hlen : as.length = ps.length)
    (hst : st = as.reverse ++ .ref b :: rest) (hwd : (rest.map fun v => v.category).sum = wd) (hsz : Ls.size = maxL) (hd : decode bytes pc = .ok (.invokevirtual index, 3))
    (hsub : ∀ a ∈ ws', a ∈ ws ∨ h0.size ≤ a) (hf : rm.frames + 1 ≤ R.frames) (hl : wd + (ym + 11) + rm.locals ≤ R.locals) (hc : cells + rm.cells ≤ R.cells) (hs : slots + rm.slots ≤ R.slots)
    (K : ∀ T' h' v, OwnPos p l e R s m args below meth c Z ws h0 T' h' (cells + rm.cells) (slots + rm.slots) → Keep h h' ws' → Q v h' → OwnDone p e below W (T'.setTop (mkF m (pc + 3) Ls (v.toList ++ rest)))) : OwnDone p e below W (T.setTop (mkF m pc Ls st)) := by
  have kp := P.keep
  obtain ⟨hx, hZ, hown, hnm, hby, hml, hret, hlk⟩ := C
  obtain ⟨locs, X, eT, e0, N, E0, G0⟩ := P
  obtain ⟨cq, kq, qa, qb, qc⟩ := isOf hZ eT E
  obtain ⟨v, _, ⟨T', L', k', n'⟩, -, X', ⟨Lc, ⟨hQ, hK, NQ⟩, l1, l2, l3⟩, stp⟩ := X.virtualBack hx (y := y) (z := z) hown (mvT hZ w1) (mvT hZ w2) (notFace_of_selects (args := #[]) (mvT hZ nf)) (mvT hZ w5) (mvT hZ w6) hy (backOf (W := wd) (Q := fun v h2 L => Q v h2 ∧ Keep h h2 ws' ∧ ∀ y ∈ L, y.base ∈ ws' ∨ h.size ≤ y.base) (M []) hZ w4 w3 hf hl) qa qc (g := mkF m pc Ls st) rfl (by rw [hml]; exact hsz) (Steps.refl _) (argsL := as) (rest := rest) (lenOf hpd hlen) hst (by show 2 * 0 + _ ≤ _; omega) (hb hby hd) (fun _ _ => ⟨rfl, eT, hc, hs⟩)
  dsimp only [Pt.U, Pt.locs, Pt.cells, Pt.slots] at X' l1 l2 l3 stp hQ hK
  subst l1 l2 l3
  have NN : ∀ y ∈ locs ++ Lc, y.base ∈ ws ∨ h0.size ≤ y.base := fun y hy => by
    rcases List.mem_append.mp hy with q | q
    · exact N y q
    · rcases NQ y q with q | q
      · exact hsub _ q
      · exact Or.inr (Nat.le_trans kp.1 q)
  exact OwnDone.go (fun _ k => stp.trans k) (K T' _ v ⟨_, X', rfl, e0, NN, E0, G0⟩ hK hQ)

theorem own_callI {y : MethodName} {yb : ByteArray} {ym : Nat} {rm : Room} {Q : Option Value → Heap → Prop} {index wd : Nat} {st : List Value} {as : List Value} {b : Addr}
    (C : OwnCx p Z s m meth c own nm bytes maxL rt) (P : OwnPos p l e R s m args below meth c Z ws h0 T h cells slots) (hin : y.name = "<init>")
    (w1 : (Cond.methodLink own index y).before a0 Z = true) (w2 : (Cond.instanceMethod y).before a0 Z = true) (w3 : (Cond.initialized y.cls).before a0 Z = true) (w4 : (Cond.code y yb ym none).before a0 Z = true)
    (hy : y.cls ≠ "java/lang/invoke/MethodHandle" ∧ y.cls ≠ "java/lang/invoke/VarHandle") (M : OwnMeets l y yb ym none rm Z ws' (.ref b :: as).toArray h Q) {ps : List FieldType} {pr : Option FieldType} (hpd : parseMethodDescriptor y.desc = some ⟨ps, pr⟩) (hlen : as.length = ps.length)
    (hst : st = as.reverse ++ .ref b :: rest) (hwd : (rest.map fun v => v.category).sum = wd) (hsz : Ls.size = maxL) (hd : decode bytes pc = .ok (.invokespecial index, 3))
    (hsub : ∀ a ∈ ws', a ∈ ws ∨ h0.size ≤ a) (hf : rm.frames + 1 ≤ R.frames) (hl : wd + (ym + 11) + rm.locals ≤ R.locals) (hc : cells + rm.cells ≤ R.cells) (hs : slots + rm.slots ≤ R.slots)
    (K : ∀ T' h' v, OwnPos p l e R s m args below meth c Z ws h0 T' h' (cells + rm.cells) (slots + rm.slots) → Keep h h' ws' → Q v h' → OwnDone p e below W (T'.setTop (mkF m (pc + 3) Ls (v.toList ++ rest)))) : OwnDone p e below W (T.setTop (mkF m pc Ls st)) := by
  have kp := P.keep
  obtain ⟨hx, hZ, hown, hnm, hby, hml, hret, hlk⟩ := C
  obtain ⟨locs, X, eT, e0, N, E0, G0⟩ := P
  obtain ⟨v, _, ⟨T', L', k', n'⟩, -, X', ⟨Lc, ⟨hQ, hK, NQ⟩, l1, l2, l3⟩, stp⟩ := X.specialBack hx (y := y) hin hown (mvT hZ w1) (mvT hZ w2) (mvT hZ w4) hy (backOf (W := wd) (Q := fun v h2 L => Q v h2 ∧ Keep h h2 ws' ∧ ∀ y ∈ L, y.base ∈ ws' ∨ h.size ≤ y.base) (M []) hZ w4 w3 hf hl) (g := mkF m pc Ls st) rfl (by rw [hml]; exact hsz) (Steps.refl _) (a := b) (argsL := as) (rest := rest) (lenOf hpd hlen) hst (by show 2 * 0 + _ ≤ _; omega) (hb hby hd) (fun _ _ => ⟨rfl, eT, hc, hs⟩)
  dsimp only [Pt.U, Pt.locs, Pt.cells, Pt.slots] at X' l1 l2 l3 stp hQ hK
  subst l1 l2 l3
  have NN : ∀ y ∈ locs ++ Lc, y.base ∈ ws ∨ h0.size ≤ y.base := fun y hy => by
    rcases List.mem_append.mp hy with q | q
    · exact N y q
    · rcases NQ y q with q | q
      · exact hsub _ q
      · exact Or.inr (Nat.le_trans kp.1 q)
  exact OwnDone.go (fun _ k => stp.trans k) (K T' _ v ⟨_, X', rfl, e0, NN, E0, G0⟩ hK hQ)

theorem own_callP {y : MethodName} {yb : ByteArray} {ym : Nat} {yr : Option FieldType} {rm : Room} {Q : Option Value → Heap → Prop} {index wd : Nat} {st : List Value} {as : List Value} {b : Addr} {CC : String}
    (C : OwnCx p Z s m meth c own nm bytes maxL rt) (P : OwnPos p l e R s m args below meth c Z ws h0 T h cells slots) (E : Exa Z h b CC)
    (w1 : (Cond.methodLink own index y).before a0 Z = true) (w2 : (Cond.instanceMethod y).before a0 Z = true) {nI : Nat} (wi : (Cond.instantiable y.cls nI).before a0 Z = true) (w6 : (Cond.privateMethod y).before a0 Z = true) (w3 : (Cond.initialized y.cls).before a0 Z = true) (w4 : (Cond.code y yb ym yr).before a0 Z = true)
    (hy : y.cls ≠ "java/lang/invoke/MethodHandle" ∧ y.cls ≠ "java/lang/invoke/VarHandle") (M : OwnMeets l y yb ym yr rm Z ws' (.ref b :: as).toArray h Q) {ps : List FieldType} {pr : Option FieldType} (hpd : parseMethodDescriptor y.desc = some ⟨ps, pr⟩) (hlen : as.length = ps.length)
    (hst : st = as.reverse ++ .ref b :: rest) (hwd : (rest.map fun v => v.category).sum = wd) (hsz : Ls.size = maxL) (hd : decode bytes pc = .ok (.invokevirtual index, 3))
    (hsub : ∀ a ∈ ws', a ∈ ws ∨ h0.size ≤ a) (hf : rm.frames + 1 ≤ R.frames) (hl : wd + (ym + 11) + rm.locals ≤ R.locals) (hc : cells + rm.cells ≤ R.cells) (hs : slots + rm.slots ≤ R.slots)
    (K : ∀ T' h' v, OwnPos p l e R s m args below meth c Z ws h0 T' h' (cells + rm.cells) (slots + rm.slots) → Keep h h' ws' → Q v h' → OwnDone p e below W (T'.setTop (mkF m (pc + 3) Ls (v.toList ++ rest)))) : OwnDone p e below W (T.setTop (mkF m pc Ls st)) := by
  have kp := P.keep
  obtain ⟨hx, hZ, hown, hnm, hby, hml, hret, hlk⟩ := C
  obtain ⟨locs, X, eT, e0, N, E0, G0⟩ := P
  obtain ⟨cq, qa, qb⟩ := E.cell
  obtain ⟨ci, ki, i1, i2, i3, i4, -⟩ := Cond.instantiable_spec (mvT (args := args) hZ wi)
  have hni : ki.isInterface = false := by
    simp only [Bool.or_eq_false_iff] at i4; exact i4.1
  obtain ⟨v, _, ⟨T', L', k', n'⟩, -, X', ⟨Lc, ⟨hQ, hK, NQ⟩, l1, l2, l3⟩, stp⟩ := X.privateBack hx (y := y) hown (mvT hZ w1) (mvT hZ w2) (selects_self_of_private i1 i2 hni (Cond.privateMethod_at (mvP hZ w6 (args := #[]))) (mvT hZ w2) hy) (Cond.privateMethod_at (mvP hZ w6 (args := #[]))) (mvT hZ w4) hy (backOf (W := wd) (Q := fun v h2 L => Q v h2 ∧ Keep h h2 ws' ∧ ∀ y ∈ L, y.base ∈ ws' ∨ h.size ≤ y.base) (M []) hZ w4 w3 hf hl) (g := mkF m pc Ls st) rfl (by rw [hml]; exact hsz) (Steps.refl _) (a := b) (by rw [eT]; exact qa) qb (argsL := as) (rest := rest) (lenOf hpd hlen) hst (by show 2 * 0 + _ ≤ _; omega) (hb hby hd) (fun _ _ => ⟨rfl, eT, hc, hs⟩)
  dsimp only [Pt.U, Pt.locs, Pt.cells, Pt.slots] at X' l1 l2 l3 stp hQ hK
  subst l1 l2 l3
  have NN : ∀ y ∈ locs ++ Lc, y.base ∈ ws ∨ h0.size ≤ y.base := fun y hy => by
    rcases List.mem_append.mp hy with q | q
    · exact N y q
    · rcases NQ y q with q | q
      · exact hsub _ q
      · exact Or.inr (Nat.le_trans kp.1 q)
  exact OwnDone.go (fun _ k => stp.trans k) (K T' _ v ⟨_, X', rfl, e0, NN, E0, G0⟩ hK hQ)

theorem own_initO {index wd : Nat} {a : Addr} (C : OwnCx p Z s m meth c own nm bytes maxL rt) (P : OwnPos p l e R s m args below meth c Z ws h0 T h cells slots)
    (w1 : (Cond.methodLink own index Lib.objectInit).before a0 Z = true) (w2 : (Cond.instanceMethod Lib.objectInit).before a0 Z = true) (w3 : (Cond.code Lib.objectInit ⟨#[0xb1]⟩ 1 none).before a0 Z = true)
    (hwd : (rest.map fun v => v.category).sum = wd) (hsz : Ls.size = maxL) (hd : decode bytes pc = .ok (.invokespecial index, 3)) (hf : 1 ≤ R.frames) (hl : wd + 12 ≤ R.locals)
    (K : ∀ T', OwnPos p l e R s m args below meth c Z ws h0 T' h cells slots → OwnDone p e below W (T'.setTop (mkF m (pc + 3) Ls rest))) : OwnDone p e below W (T.setTop (mkF m pc Ls (.ref a :: rest))) := by
  obtain ⟨hx, hZ, hown, hnm, hby, hml, hret, hlk⟩ := C
  obtain ⟨locs, X, eT, e0, N, E0, G0⟩ := P
  obtain ⟨T', X', e', st⟩ := initO X hx hZ hown w1 w2 w3 eT (g := mkF m pc Ls (.ref a :: rest)) rfl (by rw [hml]; exact hsz) rfl (hb hby hd) hf (W := wd) (by show 2 * 0 + _ ≤ _; omega) hl
  exact OwnDone.go st (K T' ⟨_, X', e', e0, N, E0, G0⟩)
theorem own_nb {z : Int32} (h : z = 0 ∨ z = 1) : narrow .boolean (.int z) = .int z := by rcases h with rfl | rfl <;> rfl
theorem own_fb {z : Int32} (h : z = 0 ∨ z = 1) : fits .boolean (.int z) = true := by rcases h with rfl | rfl <;> rfl
theorem own_nref {t : FieldType} {v : Value} (ht : t.isReference = true) : narrow t v = v := by cases t <;> first | (cases ht; done) | rfl
theorem own_fref {t : FieldType} {v : Value} (ht : t.isReference = true) (hv : v.isRef = true) : fits t v = true := by
  cases t <;> first | (cases ht; done) | (cases v <;> first | (cases hv; done) | rfl)
/-! objects: all their fields at once -/
def OwnObj (Z : State) (h : Heap) (a : Addr) (C : String) (lay : List (String × String × String)) (vs : List Value) : Prop :=
  Exa Z h a C ∧ ∀ (i : Nat) (O n d : String) (v : Value), lay[i]? = some (O, n, d) → vs[i]? = some v → Fld Z h a O n d v
/-- the sheet lays these fields; their names are unlike -/
def OwnLaid (Z : State) (a0 : Array Value) (C : String) (lay : List (String × String × String)) : Prop :=
  (∀ q ∈ lay, Laid Z a0 C q.1 q.2.1 q.2.2) ∧ (lay.map fun q => q.2.1).Nodup ∧ ∀ q ∈ lay, ∃ t, parseFieldDescriptor q.2.2 = some t
section Obj
variable {a b : Addr} {CC : String} {lay : List (String × String × String)} {vs vs' : List Value}
theorem OwnObj.lt (F : OwnObj Z h a CC lay vs) : a < h.size := F.1.lt
theorem OwnObj.keep (F : OwnObj Z h a CC lay vs) (K : Keep h h' ws) (q : a ∉ ws) : OwnObj Z h' a CC lay vs :=
  ⟨F.1.keep K, fun i O n d v h1 h2 => (F.2 i O n d v h1 h2).keep K q⟩
theorem own_names (nd : (lay.map fun q => q.2.1).Nodup) {i j : Nat} {O n d O' n' d' : String} (hi : lay[i]? = some (O, n, d)) (hj : lay[j]? = some (O', n', d')) (ne : i ≠ j) : n ≠ n' := fun e => by
  have hl : i < (lay.map fun q => q.2.1).length := by simpa using (List.getElem?_eq_some_iff.mp hi).1
  refine ne ((List.getElem?_inj hl nd).mp ?_)
  simp [hi, hj, e]
theorem OwnObj.put {O n d : String} {v : Value} (F : OwnObj Z h a CC lay vs) (LL : OwnLaid Z a0 CC lay) (W : Wr h h' a (Jvm.RoadKit.slotOf Z O n d) v) (i : Nat) (hi : lay[i]? = some (O, n, d)) (hv : vs.set i v = vs') : OwnObj Z h' a CC lay vs' := by
  subst hv
  refine ⟨F.1.wr W, fun j O' n' d' v' h1 h2 => ?_⟩
  by_cases q : i = j
  · subst q
    cases hi.symm.trans h1
    have hl : i < vs.length := by
      have := (List.getElem?_eq_some_iff.mp h2).1
      simpa using this
    rw [List.getElem?_set_self hl] at h2
    cases h2
    exact (F.2 i _ _ _ _ h1 (List.getElem?_eq_getElem hl)).same W
  · rw [List.getElem?_set_ne q] at h2
    obtain ⟨t, ht⟩ := LL.2.2 (O, n, d) (List.mem_of_getElem? hi)
    obtain ⟨t', ht'⟩ := LL.2.2 (O', n', d') (List.mem_of_getElem? h1)
    have L1 : Laid Z a0 CC O' n' d' := LL.1 (O', n', d') (List.mem_of_getElem? h1)
    have L2 : Laid Z a0 CC O n d := LL.1 (O, n, d) (List.mem_of_getElem? hi)
    have t1 : parseFieldDescriptor d' = some t' := ht'
    have t2 : parseFieldDescriptor d = some t := ht
    have nn : n' ≠ n := own_names LL.2.1 h1 hi (Ne.symm q)
    have sn := Jvm.RoadKit.slot_ne L1 L2 nn t1 t2
    exact (F.2 j O' n' d' v' h1 h2).other W (Or.inr sn)
theorem own_new {n index : Nat} (C : OwnCx p Z s m meth c own nm bytes maxL rt) (P : OwnPos p l e R s m args below meth c Z ws h0 T h cells slots)
    (w : (Cond.classLink own index CC).before a0 Z = true) (wi : (Cond.instantiable CC n).before a0 Z = true) (wz : (Cond.initialized CC).before a0 Z = true) (LL : OwnLaid Z a0 CC lay)
    (hv : lay.map (fun q => (parseFieldDescriptor q.2.2).map defaultValue) = vs.map some) (hd : decode bytes pc = .ok (.new index, 3)) (hc : cells + 1 ≤ R.cells) (hl : slots + n ≤ R.slots)
    (K : ∀ T' h' a, a = h.size → a < h'.size → OwnPos p l e R s m args below meth c Z ws h0 T' h' (cells + 1) (slots + n) → Keep h h' [] → OwnObj Z h' a CC lay vs → OwnDone p e below W (T'.setTop (mkF m (pc + 3) Ls (.ref a :: rest)))) : OwnDone p e below W (T.setTop (mkF m pc Ls rest)) := by
  have kp := P.keep
  obtain ⟨hx, hZ, hown, hnm, hby, hml, hret, hlk⟩ := C
  obtain ⟨locs, X, eT, e0, N, E0, G0⟩ := P
  obtain ⟨T', h', X', e', E', A', D', -, st⟩ := newO X hx hZ hown w wi wz eT (g := mkF m pc Ls rest) rfl (hb hby hd) hc hl
  refine OwnDone.go st (K T' h' h.size rfl A'.lt ⟨_, X', e', e0, N, E0, G0⟩ ((Keep.refl h []).ext E') ⟨A', fun i O n d v h1 h2 => ?_⟩)
  have q : (lay.map (fun q => (parseFieldDescriptor q.2.2).map defaultValue))[i]? = (vs.map some)[i]? := by rw [hv]
  simp only [List.getElem?_map, h1, h2, Option.map_some] at q
  obtain ⟨t, ht⟩ := LL.2.2 _ (List.mem_of_getElem? h1)
  rw [ht] at q
  obtain rfl : defaultValue t = v := by simpa using q
  exact D' (LL.1 _ (List.mem_of_getElem? h1)) ht
theorem own_putO {R0 O n d : String} {index kk : Nat} {ty : FieldType} {v v' : Value} (C : OwnCx p Z s m meth c own nm bytes maxL rt) (P : OwnPos p l e R s m args below meth c Z ws h0 T h cells slots)
    (w : (Cond.fieldLink own index R0 n d).before a0 Z = true) (via : Via Z R0 O n d) (F : OwnObj Z h a CC lay vs) (LL : OwnLaid Z a0 CC lay) (i : Nat) (hi : lay[i]? = some (O, n, d)) {old : Value} (ho : vs[i]? = some old)
    (L : (Cond.lays CC O n d).before a0 Z = true ∨ ((Cond.laysFinal CC O n d).before a0 Z = true ∧ own = O ∧ nm = "<init>")) (wi : (Cond.instantiable CC kk).before a0 Z = true)
    (hty : parseFieldDescriptor d = some ty) (hn : narrow ty v = v') (hf : fits ty v' = true) (hge : a ∈ ws ∨ h0.size ≤ a) (hd : decode bytes pc = .ok (.putfield index, 3)) (hvs : vs.set i v' = vs')
    (K : ∀ T' h', OwnPos p l e R s m args below meth c Z ws h0 T' h' cells slots → Keep h h' [a] → OwnObj Z h' a CC lay vs' → OwnDone p e below W (T'.setTop (mkF m (pc + 3) Ls rest))) : OwnDone p e below W (T.setTop (mkF m pc Ls (v :: .ref a :: rest))) := by
  obtain ⟨hx, hZ, hown, hnm, hby, hml, hret, hlk⟩ := C
  obtain ⟨locs, X, eT, e0, N, E0, G0⟩ := P
  subst hnm
  obtain ⟨T', h', X', e', W', st⟩ := putFN X hx hZ hown w via eT (F.2 i _ _ _ _ hi ho) F.1 L wi hty hn hf (g := mkF m pc Ls (v :: .ref a :: rest)) rfl rfl (hb hby hd)
  have NN : ∀ y ∈ locs ++ [⟨a, Jvm.RoadKit.slotOf Z O n d⟩], y.base ∈ ws ∨ h0.size ≤ y.base := fun y hy => by
    rcases List.mem_append.mp hy with q | q
    · exact N y q
    · cases List.mem_singleton.mp q; exact hge
  exact OwnDone.go st (K T' h' ⟨_, X', e', e0, NN, E0, G0⟩ (Keep.of_wr W') (F.put LL W' i hi hvs))
end Obj
/-! arrays: all their elements at once -/
def OwnAry (Z : State) (h : Heap) (a : Addr) (k : ClassId) (ty : FieldType) (vs : List Value) : Prop := ∃ c : Cell, Arr Z h a c ty ∧ c.cls = k ∧ c.slots.toList = vs
section Ary
variable {a b : Addr} {k : ClassId} {ty : FieldType} {vs vs' : List Value} {j : Int32}
theorem OwnAry.lt (F : OwnAry Z h a k ty vs) : a < h.size := by obtain ⟨c, A, -⟩ := F; exact A.lt
theorem OwnAry.keep (F : OwnAry Z h a k ty vs) (K : Keep h h' ws) (q : a ∉ ws) : OwnAry Z h' a k ty vs := by
  obtain ⟨c, A, r⟩ := F; exact ⟨c, ⟨K.2.1 a c A.1 q, A.2⟩, r⟩
theorem OwnAry.ext (F : OwnAry Z h a k ty vs) (E : Ext h h') : OwnAry Z h' a k ty vs := by obtain ⟨c, A, r⟩ := F; exact ⟨c, A.ext E, r⟩
theorem OwnAry.set {i : Nat} {v : Value} (F : OwnAry Z h a k ty vs) (W : Wr h h' a i v) : OwnAry Z h' a k ty (vs.set i v) := by
  obtain ⟨c, A, r1, r2⟩ := F
  exact ⟨_, A.same W, r1, by rw [← r2]; simp [Cell.setSlot]⟩
theorem own_in {c : Cell} (r : c.slots.toList = vs) (h1 : ¬ j < 0) (h2 : j.toNatClampNeg < vs.length) : ¬ (j < 0 ∨ c.slots.size ≤ j.toNatClampNeg) := by
  have e : c.slots.size = vs.length := by rw [← r]; simp
  rw [e]; rintro (q | q)
  · exact h1 q
  · omega
theorem own_at {c : Cell} {i : Nat} (r : c.slots.toList = vs) : c.slots[i]? = vs[i]? := by rw [← r]; simp
theorem own_cls {cc : Cell} {ad : String} (A : Arr Z h a cc ty) (E : Exa Z h a ad) : Z.vm.findClass ad = some cc.cls := by
  obtain ⟨c1, k1, h1, h2, -⟩ := E
  cases A.1.symm.trans h1
  exact h2
theorem OwnAry.ins {cn : String} (F : OwnAry Z h a k ty vs) (hk : Z.vm.findClass cn = some k) : Ins Z h a cn true := by
  obtain ⟨c1, A, rfl, -⟩ := F
  exact ⟨c1, _, A.1, hk, by simp [A.plain, Vm.assignable_self]⟩
theorem OwnAry.insC {cn C' : String} (F : OwnAry Z h a k ty vs) (hk : Z.vm.findClass cn = some k) (w : (Cond.castable cn C').before a0 Z = true) : Ins Z h a C' true := by
  obtain ⟨c1, A, rfl, -⟩ := F
  obtain ⟨d1, d2, g1, g2, g3⟩ := Cond.castable_spec w
  cases hk.symm.trans g1
  exact ⟨c1, d2, A.1, g2, by simp [A.plain, g3]⟩
theorem OwnAry.sto {C' : String} {y : Addr} (F : OwnAry Z h a k ty vs) (O : Ovr Z k C') (I : Ins Z h y C' true) : Sto Z h a (.ref y) := by
  obtain ⟨c1, A, q, -⟩ := F; exact Sto.ofV A q O I
theorem OwnAry.stoA {C' : String} {t : FieldType} {y : Addr} (F : OwnAry Z h a k ty vs) (O : OvrA Z k t C') (I : Ins Z h y C' true) : Sto Z h a (.ref y) := by
  obtain ⟨c1, A, q, -⟩ := F; exact Sto.ofVA A q O I
theorem own_newP {aty : ArrayType} {n : Int32} {cap : Nat} {ad : String} (C : OwnCx p Z s m meth c own nm bytes maxL rt) (P : OwnPos p l e R s m args below meth c Z ws h0 T h cells slots)
    (w : (Cond.arrayClass (newarray.typeOf aty)).before a0 Z = true) (hd : decode bytes pc = .ok (.newarray aty, 2)) (hn : ¬ n < 0) (hcap : n.toNatClampNeg ≤ cap) (hbb : cap * 8 ≤ 536870912) (hvs : List.replicate n.toNatClampNeg (defaultValue (newarray.typeOf aty)) = vs) (had : "[" ++ (newarray.typeOf aty).toString = ad) (hc : cells + 1 ≤ R.cells) (hl : slots + cap ≤ R.slots)
    (K : ∀ T' h' a k, a = h.size → a < h'.size → OwnPos p l e R s m args below meth c Z ws h0 T' h' (cells + 1) (slots + cap) → Keep h h' [] → OwnAry Z h' a k (newarray.typeOf aty) vs → Z.vm.findClass ad = some k → OwnDone p e below W (T'.setTop (mkF m (pc + 2) Ls (.ref a :: rest)))) : OwnDone p e below W (T.setTop (mkF m pc Ls (.int n :: rest))) := by
  obtain ⟨hx, hZ, hown, hnm, hby, hml, hret, hlk⟩ := C
  obtain ⟨locs, X, eT, e0, N, E0, G0⟩ := P
  obtain ⟨T', h', cA, X', e', E', A', EX, st⟩ := newPE X hx hZ w eT (g := mkF m pc Ls (.int n :: rest)) rfl (hb hby hd) rfl hn hcap hbb hc hl had
  exact OwnDone.go st (K T' h' h.size cA rfl A'.lt ⟨_, X', e', e0, N, E0, G0⟩ ((Keep.refl h []).ext E') ⟨_, A', rfl, by rw [← hvs]; simp [newA]⟩ (own_cls A' EX))
theorem own_newR {CC : String} {index : Nat} {n : Int32} {cap : Nat} {ad : String} (C : OwnCx p Z s m meth c own nm bytes maxL rt) (P : OwnPos p l e R s m args below meth c Z ws h0 T h cells slots)
    (w1 : (Cond.classLink own index CC).before a0 Z = true) (w2 : (Cond.arrayOver (.object CC)).before a0 Z = true) (hd : decode bytes pc = .ok (.anewarray index, 3)) (hn : ¬ n < 0) (hcap : n.toNatClampNeg ≤ cap) (hbb : cap * 8 ≤ 536870912) (hvs : List.replicate n.toNatClampNeg Value.null = vs) (had : "[" ++ (FieldType.object CC).toString = ad) (hc : cells + 1 ≤ R.cells) (hl : slots + cap ≤ R.slots)
    (K : ∀ T' h' a k, a = h.size → a < h'.size → OwnPos p l e R s m args below meth c Z ws h0 T' h' (cells + 1) (slots + cap) → Keep h h' [] → OwnAry Z h' a k (.object CC) vs → Z.vm.findClass ad = some k → Ovr Z k CC → OwnDone p e below W (T'.setTop (mkF m (pc + 3) Ls (.ref a :: rest)))) : OwnDone p e below W (T.setTop (mkF m pc Ls (.int n :: rest))) := by
  obtain ⟨hx, hZ, hown, hnm, hby, hml, hret, hlk⟩ := C
  obtain ⟨locs, X, eT, e0, N, E0, G0⟩ := P
  obtain ⟨T', h', cA, X', e', E', A', EX, O', st⟩ := newRE X hx hZ hown w1 w2 eT (g := mkF m pc Ls (.int n :: rest)) rfl (hb hby hd) rfl hn hcap hbb hc hl had
  exact OwnDone.go st (K T' h' h.size cA rfl A'.lt ⟨_, X', e', e0, N, E0, G0⟩ ((Keep.refl h []).ext E') ⟨_, A', rfl, by rw [← hvs]; simp [newA, defaultValue]⟩ (own_cls A' EX) O')
theorem own_newA {CC : String} {t : FieldType} {index : Nat} {n : Int32} {cap : Nat} {ad : String} (C : OwnCx p Z s m meth c own nm bytes maxL rt) (P : OwnPos p l e R s m args below meth c Z ws h0 T h cells slots)
    (hC : (FieldType.array t).toString = CC) (w1 : (Cond.classLink own index CC).before a0 Z = true) (w2 : (Cond.arrayOver (.array t)).before a0 Z = true) (hd : decode bytes pc = .ok (.anewarray index, 3)) (hn : ¬ n < 0) (hcap : n.toNatClampNeg ≤ cap) (hbb : cap * 8 ≤ 536870912) (hvs : List.replicate n.toNatClampNeg Value.null = vs) (had : "[" ++ CC = ad) (hc : cells + 1 ≤ R.cells) (hl : slots + cap ≤ R.slots)
    (K : ∀ T' h' a k, a = h.size → a < h'.size → OwnPos p l e R s m args below meth c Z ws h0 T' h' (cells + 1) (slots + cap) → Keep h h' [] → OwnAry Z h' a k (.array t) vs → Z.vm.findClass ad = some k → OvrA Z k t CC → OwnDone p e below W (T'.setTop (mkF m (pc + 3) Ls (.ref a :: rest)))) : OwnDone p e below W (T.setTop (mkF m pc Ls (.int n :: rest))) := by
  obtain ⟨hx, hZ, hown, hnm, hby, hml, hret, hlk⟩ := C
  obtain ⟨locs, X, eT, e0, N, E0, G0⟩ := P
  obtain ⟨T', h', cA, X', e', E', A', EX, O', st⟩ := newRA X hx hZ hown hC w1 w2 eT (g := mkF m pc Ls (.int n :: rest)) rfl (hb hby hd) rfl hn hcap hbb hc hl had
  exact OwnDone.go st (K T' h' h.size cA rfl A'.lt ⟨_, X', e', e0, N, E0, G0⟩ ((Keep.refl h []).ext E') ⟨_, A', rfl, by rw [← hvs]; simp [newA, defaultValue]⟩ (own_cls A' EX) O')
theorem own_iastore {x : Int32} (C : OwnCx p Z s m meth c own nm bytes maxL rt) (P : OwnPos p l e R s m args below meth c Z ws h0 T h cells slots)
    (F : OwnAry Z h a k .int vs) (h1 : ¬ j < 0) (h2 : j.toNatClampNeg < vs.length) (hge : a ∈ ws ∨ h0.size ≤ a) (hd : decode bytes pc = .ok (.iastore, 1)) (hvs : vs.set j.toNatClampNeg (.int x) = vs')
    (K : ∀ T' h', OwnPos p l e R s m args below meth c Z ws h0 T' h' cells slots → Keep h h' [a] → OwnAry Z h' a k .int vs' → OwnDone p e below W (T'.setTop (mkF m (pc + 1) Ls rest))) : OwnDone p e below W (T.setTop (mkF m pc Ls ((.int x) :: .int j :: .ref a :: rest))) := by
  obtain ⟨hx, hZ, hown, hnm, hby, hml, hret, hlk⟩ := C
  obtain ⟨locs, X, eT, e0, N, E0, G0⟩ := P
  obtain ⟨c0, A0, r1, r2⟩ := id F
  obtain ⟨T', h', X', e', W', st⟩ := stI X hx hZ eT A0 (own_in r2 h1 h2) (g := mkF m pc Ls ((.int x) :: .int j :: .ref a :: rest)) rfl rfl (hb hby hd)
  have NN : ∀ y ∈ locs ++ [⟨a, j.toNatClampNeg⟩], y.base ∈ ws ∨ h0.size ≤ y.base := fun y hy => by
    rcases List.mem_append.mp hy with q | q
    · exact N y q
    · cases List.mem_singleton.mp q; exact hge
  exact OwnDone.go st (K T' h' ⟨_, X', e', e0, NN, E0, G0⟩ (Keep.of_wr W') (hvs ▸ F.set W'))
theorem own_lastore {x : Int64} (C : OwnCx p Z s m meth c own nm bytes maxL rt) (P : OwnPos p l e R s m args below meth c Z ws h0 T h cells slots)
    (F : OwnAry Z h a k .long vs) (h1 : ¬ j < 0) (h2 : j.toNatClampNeg < vs.length) (hge : a ∈ ws ∨ h0.size ≤ a) (hd : decode bytes pc = .ok (.lastore, 1)) (hvs : vs.set j.toNatClampNeg (.long x) = vs')
    (K : ∀ T' h', OwnPos p l e R s m args below meth c Z ws h0 T' h' cells slots → Keep h h' [a] → OwnAry Z h' a k .long vs' → OwnDone p e below W (T'.setTop (mkF m (pc + 1) Ls rest))) : OwnDone p e below W (T.setTop (mkF m pc Ls ((.long x) :: .int j :: .ref a :: rest))) := by
  obtain ⟨hx, hZ, hown, hnm, hby, hml, hret, hlk⟩ := C
  obtain ⟨locs, X, eT, e0, N, E0, G0⟩ := P
  obtain ⟨c0, A0, r1, r2⟩ := id F
  obtain ⟨T', h', X', e', W', st⟩ := stJ X hx hZ eT A0 (own_in r2 h1 h2) (g := mkF m pc Ls ((.long x) :: .int j :: .ref a :: rest)) rfl rfl (hb hby hd)
  have NN : ∀ y ∈ locs ++ [⟨a, j.toNatClampNeg⟩], y.base ∈ ws ∨ h0.size ≤ y.base := fun y hy => by
    rcases List.mem_append.mp hy with q | q
    · exact N y q
    · cases List.mem_singleton.mp q; exact hge
  exact OwnDone.go st (K T' h' ⟨_, X', e', e0, NN, E0, G0⟩ (Keep.of_wr W') (hvs ▸ F.set W'))
theorem own_castore {x : Int32} (C : OwnCx p Z s m meth c own nm bytes maxL rt) (P : OwnPos p l e R s m args below meth c Z ws h0 T h cells slots)
    (F : OwnAry Z h a k .char vs) (h1 : ¬ j < 0) (h2 : j.toNatClampNeg < vs.length) (hge : a ∈ ws ∨ h0.size ≤ a) (hd : decode bytes pc = .ok (.castore, 1)) (hvs : vs.set j.toNatClampNeg (.int (nar .char x)) = vs')
    (K : ∀ T' h', OwnPos p l e R s m args below meth c Z ws h0 T' h' cells slots → Keep h h' [a] → OwnAry Z h' a k .char vs' → OwnDone p e below W (T'.setTop (mkF m (pc + 1) Ls rest))) : OwnDone p e below W (T.setTop (mkF m pc Ls (.int x :: .int j :: .ref a :: rest))) := by
  obtain ⟨hx, hZ, hown, hnm, hby, hml, hret, hlk⟩ := C
  obtain ⟨locs, X, eT, e0, N, E0, G0⟩ := P
  obtain ⟨c0, A0, r1, r2⟩ := id F
  obtain ⟨T', h', X', e', W', st⟩ := stC X hx hZ eT A0 (own_in r2 h1 h2) (g := mkF m pc Ls (.int x :: .int j :: .ref a :: rest)) rfl rfl (hb hby hd)
  have NN : ∀ y ∈ locs ++ [⟨a, j.toNatClampNeg⟩], y.base ∈ ws ∨ h0.size ≤ y.base := fun y hy => by
    rcases List.mem_append.mp hy with q | q
    · exact N y q
    · cases List.mem_singleton.mp q; exact hge
  exact OwnDone.go st (K T' h' ⟨_, X', e', e0, NN, E0, G0⟩ (Keep.of_wr W') (hvs ▸ F.set W'))
theorem own_bastore {x : Int32} (C : OwnCx p Z s m meth c own nm bytes maxL rt) (P : OwnPos p l e R s m args below meth c Z ws h0 T h cells slots)
    (F : OwnAry Z h a k .byte vs) (h1 : ¬ j < 0) (h2 : j.toNatClampNeg < vs.length) (hge : a ∈ ws ∨ h0.size ≤ a) (hd : decode bytes pc = .ok (.bastore, 1)) (hvs : vs.set j.toNatClampNeg (.int (nar .byte x)) = vs')
    (K : ∀ T' h', OwnPos p l e R s m args below meth c Z ws h0 T' h' cells slots → Keep h h' [a] → OwnAry Z h' a k .byte vs' → OwnDone p e below W (T'.setTop (mkF m (pc + 1) Ls rest))) : OwnDone p e below W (T.setTop (mkF m pc Ls (.int x :: .int j :: .ref a :: rest))) := by
  obtain ⟨hx, hZ, hown, hnm, hby, hml, hret, hlk⟩ := C
  obtain ⟨locs, X, eT, e0, N, E0, G0⟩ := P
  obtain ⟨c0, A0, r1, r2⟩ := id F
  obtain ⟨T', h', X', e', W', st⟩ := stB X hx hZ eT A0 (own_in r2 h1 h2) (g := mkF m pc Ls (.int x :: .int j :: .ref a :: rest)) rfl rfl (hb hby hd)
  have NN : ∀ y ∈ locs ++ [⟨a, j.toNatClampNeg⟩], y.base ∈ ws ∨ h0.size ≤ y.base := fun y hy => by
    rcases List.mem_append.mp hy with q | q
    · exact N y q
    · cases List.mem_singleton.mp q; exact hge
  exact OwnDone.go st (K T' h' ⟨_, X', e', e0, NN, E0, G0⟩ (Keep.of_wr W') (hvs ▸ F.set W'))
theorem own_aastore {v : Value} (C : OwnCx p Z s m meth c own nm bytes maxL rt) (P : OwnPos p l e R s m args below meth c Z ws h0 T h cells slots)
    (F : OwnAry Z h a k ty vs) (hty : ty.isReference = true) (h1 : ¬ j < 0) (h2 : j.toNatClampNeg < vs.length) (S : Sto Z h a v) (hge : a ∈ ws ∨ h0.size ≤ a) (hd : decode bytes pc = .ok (.aastore, 1)) (hvs : vs.set j.toNatClampNeg v = vs')
    (K : ∀ T' h', OwnPos p l e R s m args below meth c Z ws h0 T' h' cells slots → Keep h h' [a] → OwnAry Z h' a k ty vs' → OwnDone p e below W (T'.setTop (mkF m (pc + 1) Ls rest))) : OwnDone p e below W (T.setTop (mkF m pc Ls (v :: .int j :: .ref a :: rest))) := by
  obtain ⟨hx, hZ, hown, hnm, hby, hml, hret, hlk⟩ := C
  obtain ⟨locs, X, eT, e0, N, E0, G0⟩ := P
  obtain ⟨c0, A0, r1, r2⟩ := id F
  obtain ⟨T', h', X', e', W', st⟩ := stR X hx hZ eT A0 (own_in r2 h1 h2) hty S (g := mkF m pc Ls (v :: .int j :: .ref a :: rest)) rfl rfl (hb hby hd)
  have NN : ∀ y ∈ locs ++ [⟨a, j.toNatClampNeg⟩], y.base ∈ ws ∨ h0.size ≤ y.base := fun y hy => by
    rcases List.mem_append.mp hy with q | q
    · exact N y q
    · cases List.mem_singleton.mp q; exact hge
  exact OwnDone.go st (K T' h' ⟨_, X', e', e0, NN, E0, G0⟩ (Keep.of_wr W') (hvs ▸ F.set W'))
theorem own_iaload {v : Value} {target : State} (C : OwnCx p Z s m meth c own nm bytes maxL rt) (P : OwnPos p l e R s m args below meth c Z ws h0 T h cells slots)
    (F : OwnAry Z h a k .int vs) (h1 : ¬ j < 0) (hv : vs[j.toNatClampNeg]? = some v) (hd : decode bytes pc = .ok (.iaload, 1))
    (K : Steps p.tables e below (T.setTop (mkF m (pc + 1) Ls (v :: rest))) target) : Steps p.tables e below (T.setTop (mkF m pc Ls (.int j :: .ref a :: rest))) target := by
  obtain ⟨hx, hZ, hown, hnm, hby, hml, hret, hlk⟩ := C
  obtain ⟨locs, X, eT, e0, N, E0, G0⟩ := P
  obtain ⟨c0, A0, r1, r2⟩ := F
  exact X.iaload hx (j := j) (v := v) (by rw [eT]; exact A0.1) (State.isArrayOf_alike hZ.alike A0.2.1) A0.2.2 (own_in r2 h1 (List.getElem?_eq_some_iff.mp hv).1) ((own_at r2).trans hv) (g := mkF m pc Ls (.int j :: .ref a :: rest)) rfl rfl (hb hby hd) target K
theorem own_laload {v : Value} {target : State} (C : OwnCx p Z s m meth c own nm bytes maxL rt) (P : OwnPos p l e R s m args below meth c Z ws h0 T h cells slots)
    (F : OwnAry Z h a k .long vs) (h1 : ¬ j < 0) (hv : vs[j.toNatClampNeg]? = some v) (hd : decode bytes pc = .ok (.laload, 1))
    (K : Steps p.tables e below (T.setTop (mkF m (pc + 1) Ls (v :: rest))) target) : Steps p.tables e below (T.setTop (mkF m pc Ls (.int j :: .ref a :: rest))) target := by
  obtain ⟨hx, hZ, hown, hnm, hby, hml, hret, hlk⟩ := C
  obtain ⟨locs, X, eT, e0, N, E0, G0⟩ := P
  obtain ⟨c0, A0, r1, r2⟩ := F
  exact X.laload hx (j := j) (v := v) (by rw [eT]; exact A0.1) (State.isArrayOf_alike hZ.alike A0.2.1) A0.2.2 (own_in r2 h1 (List.getElem?_eq_some_iff.mp hv).1) ((own_at r2).trans hv) (g := mkF m pc Ls (.int j :: .ref a :: rest)) rfl rfl (hb hby hd) target K
theorem own_caload {v : Value} {target : State} (C : OwnCx p Z s m meth c own nm bytes maxL rt) (P : OwnPos p l e R s m args below meth c Z ws h0 T h cells slots)
    (F : OwnAry Z h a k .char vs) (h1 : ¬ j < 0) (hv : vs[j.toNatClampNeg]? = some v) (hd : decode bytes pc = .ok (.caload, 1))
    (K : Steps p.tables e below (T.setTop (mkF m (pc + 1) Ls (v :: rest))) target) : Steps p.tables e below (T.setTop (mkF m pc Ls (.int j :: .ref a :: rest))) target := by
  obtain ⟨hx, hZ, hown, hnm, hby, hml, hret, hlk⟩ := C
  obtain ⟨locs, X, eT, e0, N, E0, G0⟩ := P
  obtain ⟨c0, A0, r1, r2⟩ := F
  exact X.caload hx (j := j) (v := v) (by rw [eT]; exact A0.1) (State.isArrayOf_alike hZ.alike A0.2.1) A0.2.2 (own_in r2 h1 (List.getElem?_eq_some_iff.mp hv).1) ((own_at r2).trans hv) (g := mkF m pc Ls (.int j :: .ref a :: rest)) rfl rfl (hb hby hd) target K
theorem own_baload {v : Value} {target : State} (C : OwnCx p Z s m meth c own nm bytes maxL rt) (P : OwnPos p l e R s m args below meth c Z ws h0 T h cells slots)
    (F : OwnAry Z h a k .byte vs) (h1 : ¬ j < 0) (hv : vs[j.toNatClampNeg]? = some v) (hd : decode bytes pc = .ok (.baload, 1))
    (K : Steps p.tables e below (T.setTop (mkF m (pc + 1) Ls (v :: rest))) target) : Steps p.tables e below (T.setTop (mkF m pc Ls (.int j :: .ref a :: rest))) target := by
  obtain ⟨hx, hZ, hown, hnm, hby, hml, hret, hlk⟩ := C
  obtain ⟨locs, X, eT, e0, N, E0, G0⟩ := P
  obtain ⟨c0, A0, r1, r2⟩ := F
  exact X.baloadBytes hx (j := j) (v := v) (by rw [eT]; exact A0.1) (State.isArrayOf_alike hZ.alike A0.2.1) A0.2.2 (own_in r2 h1 (List.getElem?_eq_some_iff.mp hv).1) ((own_at r2).trans hv) (g := mkF m pc Ls (.int j :: .ref a :: rest)) rfl rfl (hb hby hd) target K
theorem own_aaload {v : Value} {target : State} (C : OwnCx p Z s m meth c own nm bytes maxL rt) (P : OwnPos p l e R s m args below meth c Z ws h0 T h cells slots)
    (F : OwnAry Z h a k ty vs) (hty : ty.isReference = true) (h1 : ¬ j < 0) (hv : vs[j.toNatClampNeg]? = some v) (hd : decode bytes pc = .ok (.aaload, 1))
    (K : Steps p.tables e below (T.setTop (mkF m (pc + 1) Ls (v :: rest))) target) : Steps p.tables e below (T.setTop (mkF m pc Ls (.int j :: .ref a :: rest))) target := by
  obtain ⟨hx, hZ, hown, hnm, hby, hml, hret, hlk⟩ := C
  obtain ⟨locs, X, eT, e0, N, E0, G0⟩ := P
  obtain ⟨c0, A0, r1, r2⟩ := F
  exact X.aaload hx (j := j) (v := v) (by rw [eT]; exact A0.1) (State.isArrayOf_alike hZ.alike A0.2.1) hty A0.2.2 (own_in r2 h1 (List.getElem?_eq_some_iff.mp hv).1) ((own_at r2).trans hv) (g := mkF m pc Ls (.int j :: .ref a :: rest)) rfl rfl (hb hby hd) target K
theorem own_alen {target : State} (C : OwnCx p Z s m meth c own nm bytes maxL rt) (P : OwnPos p l e R s m args below meth c Z ws h0 T h cells slots)
    (F : OwnAry Z h a k ty vs) (hd : decode bytes pc = .ok (.arraylength, 1))
    (K : Steps p.tables e below (T.setTop (mkF m (pc + 1) Ls (.int vs.length.toInt32 :: rest))) target) : Steps p.tables e below (T.setTop (mkF m pc Ls (.ref a :: rest))) target := by
  obtain ⟨hx, hZ, hown, hnm, hby, hml, hret, hlk⟩ := C
  obtain ⟨locs, X, eT, e0, N, E0, G0⟩ := P
  obtain ⟨c0, A0, r1, r2⟩ := F
  have e1 : c0.slots.size = vs.length := by rw [← r2]; simp
  exact X.arraylength hx (by rw [eT]; exact A0.1) (State.isArrayOf_alike hZ.alike A0.2.1) (g := mkF m pc Ls (.ref a :: rest)) rfl rfl (hb hby hd) target (by rw [e1]; exact K)
end Ary
end Own

def own_lay0 : List (String × String × String) := [("com/example/bounded_array/boundedarray/regex/Node", "kind", "Lcom/example/bounded_array/boundedarray/regex/Node$Kind;"), ("com/example/bounded_array/boundedarray/regex/Node", "size", "I"), ("com/example/bounded_array/boundedarray/regex/Node", "set", "Lcom/example/bounded_array/boundedarray/regex/CodePointSet;"), ("com/example/bounded_array/boundedarray/regex/Node", "assertion", "Lcom/example/bounded_array/boundedarray/regex/Node$Assertion;"), ("com/example/bounded_array/boundedarray/regex/Node", "number", "I"), ("com/example/bounded_array/boundedarray/regex/Node", "behind", "Z"), ("com/example/bounded_array/boundedarray/regex/Node", "negated", "Z"), ("com/example/bounded_array/boundedarray/regex/Node", "min", "I"), ("com/example/bounded_array/boundedarray/regex/Node", "max", "I"), ("com/example/bounded_array/boundedarray/regex/Node", "greedy", "Z"), ("com/example/bounded_array/boundedarray/regex/Node", "firstGroup", "I"), ("com/example/bounded_array/boundedarray/regex/Node", "groups", "I"), ("com/example/bounded_array/boundedarray/regex/Node", "referredGroups", "[I"), ("com/example/bounded_array/boundedarray/regex/Node", "caseless", "Z")]
set_option maxRecDepth 65536 in
theorem own_laid0 {Z : State} {a0 : Array Value} (hw : ∀ d ∈ tables_1, d.before a0 Z = true) : OwnLaid Z a0 "com/example/bounded_array/boundedarray/regex/Node" own_lay0 := by
  refine ⟨?_, by decide +kernel, fun q hq => Option.isSome_iff_exists.mp (List.all_eq_true.mp (by decide +kernel : own_lay0.all (fun q => (parseFieldDescriptor q.2.2).isSome) = true) q hq)⟩
  intro q hq
  simp only [own_lay0, List.mem_cons, List.not_mem_nil, or_false] at hq
  rcases hq with rfl | rfl | rfl | rfl | rfl | rfl | rfl | rfl | rfl | rfl | rfl | rfl | rfl | rfl
  · exact Or.inr (hw _ (List.mem_of_getElem? (i := 16) rfl))
  · exact Or.inr (hw _ (List.mem_of_getElem? (i := 18) rfl))
  · exact Or.inr (hw _ (List.mem_of_getElem? (i := 20) rfl))
  · exact Or.inr (hw _ (List.mem_of_getElem? (i := 22) rfl))
  · exact Or.inr (hw _ (List.mem_of_getElem? (i := 24) rfl))
  · exact Or.inr (hw _ (List.mem_of_getElem? (i := 26) rfl))
  · exact Or.inr (hw _ (List.mem_of_getElem? (i := 28) rfl))
  · exact Or.inr (hw _ (List.mem_of_getElem? (i := 30) rfl))
  · exact Or.inr (hw _ (List.mem_of_getElem? (i := 32) rfl))
  · exact Or.inr (hw _ (List.mem_of_getElem? (i := 34) rfl))
  · exact Or.inr (hw _ (List.mem_of_getElem? (i := 36) rfl))
  · exact Or.inr (hw _ (List.mem_of_getElem? (i := 38) rfl))
  · exact Or.inr (hw _ (List.mem_of_getElem? (i := 40) rfl))
  · exact Or.inr (hw _ (List.mem_of_getElem? (i := 42) rfl))
theorem pd_0 : parseMethodDescriptor "(Lcom/example/bounded_array/boundedarray/regex/Node$Kind;ILcom/example/bounded_array/boundedarray/regex/CodePointSet;Lcom/example/bounded_array/boundedarray/regex/Node$Assertion;IZZIIZII[IZ)V" = some ⟨[(.object "com/example/bounded_array/boundedarray/regex/Node$Kind"), .int, (.object "com/example/bounded_array/boundedarray/regex/CodePointSet"), (.object "com/example/bounded_array/boundedarray/regex/Node$Assertion"), .int, .boolean, .boolean, .int, .int, .boolean, .int, .int, (.array .int), .boolean], none⟩ := by decide +kernel
theorem pd_1 : parseMethodDescriptor "(IIZIII)Lcom/example/bounded_array/boundedarray/regex/Node;" = some ⟨[.int, .int, .boolean, .int, .int, .int], some (.object "com/example/bounded_array/boundedarray/regex/Node")⟩ := by decide +kernel
theorem d1_0 : decode prog_16_method_2_code 0 = .ok (.aload_n 0, 1) := by decide +kernel
theorem d1_1 : decode prog_16_method_2_code 1 = .ok (.invokespecial 7, 3) := by decide +kernel
theorem d1_4 : decode prog_16_method_2_code 4 = .ok (.aload_n 0, 1) := by decide +kernel
theorem d1_5 : decode prog_16_method_2_code 5 = .ok (.aload_n 1, 1) := by decide +kernel
theorem d1_6 : decode prog_16_method_2_code 6 = .ok (.putfield 12, 3) := by decide +kernel
theorem d1_9 : decode prog_16_method_2_code 9 = .ok (.aload_n 0, 1) := by decide +kernel
theorem d1_10 : decode prog_16_method_2_code 10 = .ok (.iload_n 2, 1) := by decide +kernel
theorem d1_11 : decode prog_16_method_2_code 11 = .ok (.putfield 16, 3) := by decide +kernel
theorem d1_14 : decode prog_16_method_2_code 14 = .ok (.aload_n 0, 1) := by decide +kernel
theorem d1_15 : decode prog_16_method_2_code 15 = .ok (.aload_n 3, 1) := by decide +kernel
theorem d1_16 : decode prog_16_method_2_code 16 = .ok (.putfield 20, 3) := by decide +kernel
theorem d1_19 : decode prog_16_method_2_code 19 = .ok (.aload_n 0, 1) := by decide +kernel
theorem d1_20 : decode prog_16_method_2_code 20 = .ok (.aload 4, 2) := by decide +kernel
theorem d1_22 : decode prog_16_method_2_code 22 = .ok (.putfield 24, 3) := by decide +kernel
theorem d1_25 : decode prog_16_method_2_code 25 = .ok (.aload_n 0, 1) := by decide +kernel
theorem d1_26 : decode prog_16_method_2_code 26 = .ok (.iload 5, 2) := by decide +kernel
theorem d1_28 : decode prog_16_method_2_code 28 = .ok (.putfield 28, 3) := by decide +kernel
theorem d1_31 : decode prog_16_method_2_code 31 = .ok (.aload_n 0, 1) := by decide +kernel
theorem d1_32 : decode prog_16_method_2_code 32 = .ok (.iload 6, 2) := by decide +kernel
theorem d1_34 : decode prog_16_method_2_code 34 = .ok (.putfield 31, 3) := by decide +kernel
theorem d1_37 : decode prog_16_method_2_code 37 = .ok (.aload_n 0, 1) := by decide +kernel
theorem d1_38 : decode prog_16_method_2_code 38 = .ok (.iload 7, 2) := by decide +kernel
theorem d1_40 : decode prog_16_method_2_code 40 = .ok (.putfield 35, 3) := by decide +kernel
theorem d1_43 : decode prog_16_method_2_code 43 = .ok (.aload_n 0, 1) := by decide +kernel
theorem d1_44 : decode prog_16_method_2_code 44 = .ok (.iload 8, 2) := by decide +kernel
theorem d1_46 : decode prog_16_method_2_code 46 = .ok (.putfield 38, 3) := by decide +kernel
theorem d1_49 : decode prog_16_method_2_code 49 = .ok (.aload_n 0, 1) := by decide +kernel
theorem d1_50 : decode prog_16_method_2_code 50 = .ok (.iload 9, 2) := by decide +kernel
theorem d1_52 : decode prog_16_method_2_code 52 = .ok (.putfield 41, 3) := by decide +kernel
theorem d1_55 : decode prog_16_method_2_code 55 = .ok (.aload_n 0, 1) := by decide +kernel
theorem d1_56 : decode prog_16_method_2_code 56 = .ok (.iload 10, 2) := by decide +kernel
theorem d1_58 : decode prog_16_method_2_code 58 = .ok (.putfield 44, 3) := by decide +kernel
theorem d1_61 : decode prog_16_method_2_code 61 = .ok (.aload_n 0, 1) := by decide +kernel
theorem d1_62 : decode prog_16_method_2_code 62 = .ok (.iload 11, 2) := by decide +kernel
theorem d1_64 : decode prog_16_method_2_code 64 = .ok (.putfield 47, 3) := by decide +kernel
theorem d1_67 : decode prog_16_method_2_code 67 = .ok (.aload_n 0, 1) := by decide +kernel
theorem d1_68 : decode prog_16_method_2_code 68 = .ok (.iload 12, 2) := by decide +kernel
theorem d1_70 : decode prog_16_method_2_code 70 = .ok (.putfield 50, 3) := by decide +kernel
theorem d1_73 : decode prog_16_method_2_code 73 = .ok (.aload_n 0, 1) := by decide +kernel
theorem d1_74 : decode prog_16_method_2_code 74 = .ok (.aload 13, 2) := by decide +kernel
theorem d1_76 : decode prog_16_method_2_code 76 = .ok (.putfield 53, 3) := by decide +kernel
theorem d1_79 : decode prog_16_method_2_code 79 = .ok (.aload_n 0, 1) := by decide +kernel
theorem d1_80 : decode prog_16_method_2_code 80 = .ok (.iload 14, 2) := by decide +kernel
theorem d1_82 : decode prog_16_method_2_code 82 = .ok (.putfield 57, 3) := by decide +kernel
theorem d1_85 : decode prog_16_method_2_code 85 = .ok (.return_, 1) := by decide +kernel
theorem pn1 : plainName "com/example/bounded_array/boundedarray/regex/Node" = true := by first | (simp [plainName, overriddenIn]; done) | decide +kernel
theorem ef1 (m : MethodId) (a1 : Addr) (kd : Addr) (sz : Int32) (nu : Int32) (bh : Int32) (ng : Int32) (mi : Int32) (mx : Int32) (gr : Int32) (fg : Int32) (gp : Int32) (cs : Int32)  : entryFrame m #[(.ref a1), (.ref kd), (.int sz), .null, .null, (.int nu), (.int bh), (.int ng), (.int mi), (.int mx), (.int gr), (.int fg), (.int gp), .null, (.int cs)] 15 = mkF m 0 #[.val (.ref a1), .val (.ref kd), .val (.int sz), .val .null, .val .null, .val (.int nu), .val (.int bh), .val (.int ng), .val (.int mi), .val (.int mx), .val (.int gr), .val (.int fg), .val (.int gp), .val .null, .val (.int cs)] [] := by first | (simp [entryFrame, mkF, argsToLocals, Value.category]; done) | rfl
set_option maxRecDepth 65536 in
set_option maxHeartbeats 40000000 in
theorem rm1 (l : Launch) (Z : State) (a0 : Array Value) (hw : ∀ d ∈ tables_1, d.before a0 Z = true) (a1 : Addr) (kd : Addr) (sz : Int32) (nu : Int32) (bh : Int32) (ng : Int32) (mi : Int32) (mx : Int32) (gr : Int32) (fg : Int32) (gp : Int32) (cs : Int32)  (h0 : Heap) (hE : Ext Z.heap h0) (g_a1 : Z.heap.size ≤ a1) (b_bh : bh = 0 ∨ bh = 1) (b_ng : ng = 0 ∨ ng = 1) (b_gr : gr = 0 ∨ gr = 1) (b_cs : cs = 0 ∨ cs = 1) (O1 : OwnObj Z h0 a1 "com/example/bounded_array/boundedarray/regex/Node" own_lay0 [.null, (.int (0 : Int32)), .null, .null, (.int (0 : Int32)), (.int (0 : Int32)), (.int (0 : Int32)), (.int (0 : Int32)), (.int (0 : Int32)), (.int (0 : Int32)), (.int (0 : Int32)), (.int (0 : Int32)), .null, (.int (0 : Int32))]) :
    OwnMeets l (⟨"com/example/bounded_array/boundedarray/regex/Node", "<init>", "(Lcom/example/bounded_array/boundedarray/regex/Node$Kind;ILcom/example/bounded_array/boundedarray/regex/CodePointSet;Lcom/example/bounded_array/boundedarray/regex/Node$Assertion;IZZIIZII[IZ)V"⟩ : MethodName) prog_16_method_2_code 15 none ({ frames := 1, cells := 0, slots := 0, locals := 12 } : Room) Z [a1] #[(.ref a1), (.ref kd), (.int sz), .null, .null, (.int nu), (.int bh), (.int ng), (.int mi), (.int mx), (.int gr), (.int fg), (.int gp), .null, (.int cs)] h0 (fun v h => v = none ∧ OwnObj Z h a1 "com/example/bounded_array/boundedarray/regex/Node" own_lay0 [(.ref kd), (.int sz), .null, .null, (.int nu), (.int bh), (.int ng), (.int mi), (.int mx), (.int gr), (.int fg), (.int gp), .null, (.int cs)]) := by
  refine OwnMeets.of (plainFor_of_name pn1) hE (allS g_a1 all0) ?_
  intro p e s m below meth c T C P
  have hx := C.1
  have hby := C.2.2.2.2.1
  rw [show entryFrame m #[(.ref a1), (.ref kd), (.int sz), .null, .null, (.int nu), (.int bh), (.int ng), (.int mi), (.int mx), (.int gr), (.int fg), (.int gp), .null, (.int cs)] 15 = _ from ef1 m a1 kd sz nu bh ng mi mx gr fg gp cs]
  show OwnDone p e below _ (T.setTop (mkF m 0 #[.val (.ref a1), .val (.ref kd), .val (.int sz), .val .null, .val .null, .val (.int nu), .val (.int bh), .val (.int ng), .val (.int mi), .val (.int mx), .val (.int gr), .val (.int fg), .val (.int gp), .val .null, .val (.int cs)] []))
  refine OwnDone.go (A := (T.setTop (mkF m 1 #[.val (.ref a1), .val (.ref kd), .val (.int sz), .val .null, .val .null, .val (.int nu), .val (.int bh), .val (.int ng), .val (.int mi), .val (.int mx), .val (.int gr), .val (.int fg), .val (.int gp), .val .null, .val (.int cs)] [(.ref a1)]))) (fun tQ kQ => ?_) ?_
  · refine XS.aloadN P.here hx rfl (hb hby d1_0) rfl rfl ?_
    show Steps p.tables e below (T.setTop (mkF m 1 #[.val (.ref a1), .val (.ref kd), .val (.int sz), .val .null, .val .null, .val (.int nu), .val (.int bh), .val (.int ng), .val (.int mi), .val (.int mx), .val (.int gr), .val (.int fg), .val (.int gp), .val .null, .val (.int cs)] [(.ref a1)])) _
    exact kQ
  show OwnDone p e below _ (T.setTop (mkF m 1 #[.val (.ref a1), .val (.ref kd), .val (.int sz), .val .null, .val .null, .val (.int nu), .val (.int bh), .val (.int ng), .val (.int mi), .val (.int mx), .val (.int gr), .val (.int fg), .val (.int gp), .val .null, .val (.int cs)] [(.ref a1)]))
  refine own_initO (wd := 0) (rest := []) C P (hw _ (List.mem_of_getElem? (i := 12) rfl)) (hw _ (List.mem_of_getElem? (i := 13) rfl)) (hw _ (List.mem_of_getElem? (i := 14) rfl)) rfl rfl d1_1 (by decide) (by decide) (fun T1 P1 => ?_)
  show OwnDone p e below _ (T1.setTop (mkF m 4 #[.val (.ref a1), .val (.ref kd), .val (.int sz), .val .null, .val .null, .val (.int nu), .val (.int bh), .val (.int ng), .val (.int mi), .val (.int mx), .val (.int gr), .val (.int fg), .val (.int gp), .val .null, .val (.int cs)] []))
  refine OwnDone.go (A := (T1.setTop (mkF m 6 #[.val (.ref a1), .val (.ref kd), .val (.int sz), .val .null, .val .null, .val (.int nu), .val (.int bh), .val (.int ng), .val (.int mi), .val (.int mx), .val (.int gr), .val (.int fg), .val (.int gp), .val .null, .val (.int cs)] [(.ref kd), (.ref a1)]))) (fun tQ kQ => ?_) ?_
  · refine XS.aloadN P1.here hx rfl (hb hby d1_4) rfl rfl ?_
    show Steps p.tables e below (T1.setTop (mkF m 5 #[.val (.ref a1), .val (.ref kd), .val (.int sz), .val .null, .val .null, .val (.int nu), .val (.int bh), .val (.int ng), .val (.int mi), .val (.int mx), .val (.int gr), .val (.int fg), .val (.int gp), .val .null, .val (.int cs)] [(.ref a1)])) _
    refine XS.aloadN P1.here hx rfl (hb hby d1_5) rfl rfl ?_
    show Steps p.tables e below (T1.setTop (mkF m 6 #[.val (.ref a1), .val (.ref kd), .val (.int sz), .val .null, .val .null, .val (.int nu), .val (.int bh), .val (.int ng), .val (.int mi), .val (.int mx), .val (.int gr), .val (.int fg), .val (.int gp), .val .null, .val (.int cs)] [(.ref kd), (.ref a1)])) _
    exact kQ
  show OwnDone p e below _ (T1.setTop (mkF m 6 #[.val (.ref a1), .val (.ref kd), .val (.int sz), .val .null, .val .null, .val (.int nu), .val (.int bh), .val (.int ng), .val (.int mi), .val (.int mx), .val (.int gr), .val (.int fg), .val (.int gp), .val .null, .val (.int cs)] [(.ref kd), (.ref a1)]))
  refine own_putO (ty := (.object "com/example/bounded_array/boundedarray/regex/Node$Kind")) C P1 (hw _ (List.mem_of_getElem? (i := 15) rfl)) Via.refl O1 (own_laid0 hw) 0 rfl rfl (Or.inr ⟨(hw _ (List.mem_of_getElem? (i := 16) rfl)), rfl, rfl⟩) (hw _ (List.mem_of_getElem? (i := 5) rfl)) (by decide) rfl rfl (Or.inl (List.mem_of_getElem? (i := 0) rfl)) d1_6 (vs' := [(.ref kd), (.int (0 : Int32)), .null, .null, (.int (0 : Int32)), (.int (0 : Int32)), (.int (0 : Int32)), (.int (0 : Int32)), (.int (0 : Int32)), (.int (0 : Int32)), (.int (0 : Int32)), (.int (0 : Int32)), .null, (.int (0 : Int32))]) rfl (fun T2 h2 P2 K2 O2 => ?_)
  show OwnDone p e below _ (T2.setTop (mkF m 9 #[.val (.ref a1), .val (.ref kd), .val (.int sz), .val .null, .val .null, .val (.int nu), .val (.int bh), .val (.int ng), .val (.int mi), .val (.int mx), .val (.int gr), .val (.int fg), .val (.int gp), .val .null, .val (.int cs)] []))
  refine OwnDone.go (A := (T2.setTop (mkF m 11 #[.val (.ref a1), .val (.ref kd), .val (.int sz), .val .null, .val .null, .val (.int nu), .val (.int bh), .val (.int ng), .val (.int mi), .val (.int mx), .val (.int gr), .val (.int fg), .val (.int gp), .val .null, .val (.int cs)] [(.int sz), (.ref a1)]))) (fun tQ kQ => ?_) ?_
  · refine XS.aloadN P2.here hx rfl (hb hby d1_9) rfl rfl ?_
    show Steps p.tables e below (T2.setTop (mkF m 10 #[.val (.ref a1), .val (.ref kd), .val (.int sz), .val .null, .val .null, .val (.int nu), .val (.int bh), .val (.int ng), .val (.int mi), .val (.int mx), .val (.int gr), .val (.int fg), .val (.int gp), .val .null, .val (.int cs)] [(.ref a1)])) _
    refine XS.iloadN P2.here hx rfl (hb hby d1_10) rfl ?_
    show Steps p.tables e below (T2.setTop (mkF m 11 #[.val (.ref a1), .val (.ref kd), .val (.int sz), .val .null, .val .null, .val (.int nu), .val (.int bh), .val (.int ng), .val (.int mi), .val (.int mx), .val (.int gr), .val (.int fg), .val (.int gp), .val .null, .val (.int cs)] [(.int sz), (.ref a1)])) _
    exact kQ
  show OwnDone p e below _ (T2.setTop (mkF m 11 #[.val (.ref a1), .val (.ref kd), .val (.int sz), .val .null, .val .null, .val (.int nu), .val (.int bh), .val (.int ng), .val (.int mi), .val (.int mx), .val (.int gr), .val (.int fg), .val (.int gp), .val .null, .val (.int cs)] [(.int sz), (.ref a1)]))
  refine own_putO (ty := .int) C P2 (hw _ (List.mem_of_getElem? (i := 17) rfl)) Via.refl O2 (own_laid0 hw) 1 rfl rfl (Or.inr ⟨(hw _ (List.mem_of_getElem? (i := 18) rfl)), rfl, rfl⟩) (hw _ (List.mem_of_getElem? (i := 5) rfl)) (by decide) rfl rfl (Or.inl (List.mem_of_getElem? (i := 0) rfl)) d1_11 (vs' := [(.ref kd), (.int sz), .null, .null, (.int (0 : Int32)), (.int (0 : Int32)), (.int (0 : Int32)), (.int (0 : Int32)), (.int (0 : Int32)), (.int (0 : Int32)), (.int (0 : Int32)), (.int (0 : Int32)), .null, (.int (0 : Int32))]) rfl (fun T3 h3 P3 K3 O3 => ?_)
  show OwnDone p e below _ (T3.setTop (mkF m 14 #[.val (.ref a1), .val (.ref kd), .val (.int sz), .val .null, .val .null, .val (.int nu), .val (.int bh), .val (.int ng), .val (.int mi), .val (.int mx), .val (.int gr), .val (.int fg), .val (.int gp), .val .null, .val (.int cs)] []))
  refine OwnDone.go (A := (T3.setTop (mkF m 16 #[.val (.ref a1), .val (.ref kd), .val (.int sz), .val .null, .val .null, .val (.int nu), .val (.int bh), .val (.int ng), .val (.int mi), .val (.int mx), .val (.int gr), .val (.int fg), .val (.int gp), .val .null, .val (.int cs)] [.null, (.ref a1)]))) (fun tQ kQ => ?_) ?_
  · refine XS.aloadN P3.here hx rfl (hb hby d1_14) rfl rfl ?_
    show Steps p.tables e below (T3.setTop (mkF m 15 #[.val (.ref a1), .val (.ref kd), .val (.int sz), .val .null, .val .null, .val (.int nu), .val (.int bh), .val (.int ng), .val (.int mi), .val (.int mx), .val (.int gr), .val (.int fg), .val (.int gp), .val .null, .val (.int cs)] [(.ref a1)])) _
    refine XS.aloadN P3.here hx rfl (hb hby d1_15) rfl rfl ?_
    show Steps p.tables e below (T3.setTop (mkF m 16 #[.val (.ref a1), .val (.ref kd), .val (.int sz), .val .null, .val .null, .val (.int nu), .val (.int bh), .val (.int ng), .val (.int mi), .val (.int mx), .val (.int gr), .val (.int fg), .val (.int gp), .val .null, .val (.int cs)] [.null, (.ref a1)])) _
    exact kQ
  show OwnDone p e below _ (T3.setTop (mkF m 16 #[.val (.ref a1), .val (.ref kd), .val (.int sz), .val .null, .val .null, .val (.int nu), .val (.int bh), .val (.int ng), .val (.int mi), .val (.int mx), .val (.int gr), .val (.int fg), .val (.int gp), .val .null, .val (.int cs)] [.null, (.ref a1)]))
  refine own_putO (ty := (.object "com/example/bounded_array/boundedarray/regex/CodePointSet")) C P3 (hw _ (List.mem_of_getElem? (i := 19) rfl)) Via.refl O3 (own_laid0 hw) 2 rfl rfl (Or.inr ⟨(hw _ (List.mem_of_getElem? (i := 20) rfl)), rfl, rfl⟩) (hw _ (List.mem_of_getElem? (i := 5) rfl)) (by decide) rfl rfl (Or.inl (List.mem_of_getElem? (i := 0) rfl)) d1_16 (vs' := [(.ref kd), (.int sz), .null, .null, (.int (0 : Int32)), (.int (0 : Int32)), (.int (0 : Int32)), (.int (0 : Int32)), (.int (0 : Int32)), (.int (0 : Int32)), (.int (0 : Int32)), (.int (0 : Int32)), .null, (.int (0 : Int32))]) rfl (fun T4 h4 P4 K4 O4 => ?_)
  show OwnDone p e below _ (T4.setTop (mkF m 19 #[.val (.ref a1), .val (.ref kd), .val (.int sz), .val .null, .val .null, .val (.int nu), .val (.int bh), .val (.int ng), .val (.int mi), .val (.int mx), .val (.int gr), .val (.int fg), .val (.int gp), .val .null, .val (.int cs)] []))
  refine OwnDone.go (A := (T4.setTop (mkF m 22 #[.val (.ref a1), .val (.ref kd), .val (.int sz), .val .null, .val .null, .val (.int nu), .val (.int bh), .val (.int ng), .val (.int mi), .val (.int mx), .val (.int gr), .val (.int fg), .val (.int gp), .val .null, .val (.int cs)] [.null, (.ref a1)]))) (fun tQ kQ => ?_) ?_
  · refine XS.aloadN P4.here hx rfl (hb hby d1_19) rfl rfl ?_
    show Steps p.tables e below (T4.setTop (mkF m 20 #[.val (.ref a1), .val (.ref kd), .val (.int sz), .val .null, .val .null, .val (.int nu), .val (.int bh), .val (.int ng), .val (.int mi), .val (.int mx), .val (.int gr), .val (.int fg), .val (.int gp), .val .null, .val (.int cs)] [(.ref a1)])) _
    refine XS.aload P4.here hx rfl (hb hby d1_20) rfl rfl ?_
    show Steps p.tables e below (T4.setTop (mkF m 22 #[.val (.ref a1), .val (.ref kd), .val (.int sz), .val .null, .val .null, .val (.int nu), .val (.int bh), .val (.int ng), .val (.int mi), .val (.int mx), .val (.int gr), .val (.int fg), .val (.int gp), .val .null, .val (.int cs)] [.null, (.ref a1)])) _
    exact kQ
  show OwnDone p e below _ (T4.setTop (mkF m 22 #[.val (.ref a1), .val (.ref kd), .val (.int sz), .val .null, .val .null, .val (.int nu), .val (.int bh), .val (.int ng), .val (.int mi), .val (.int mx), .val (.int gr), .val (.int fg), .val (.int gp), .val .null, .val (.int cs)] [.null, (.ref a1)]))
  refine own_putO (ty := (.object "com/example/bounded_array/boundedarray/regex/Node$Assertion")) C P4 (hw _ (List.mem_of_getElem? (i := 21) rfl)) Via.refl O4 (own_laid0 hw) 3 rfl rfl (Or.inr ⟨(hw _ (List.mem_of_getElem? (i := 22) rfl)), rfl, rfl⟩) (hw _ (List.mem_of_getElem? (i := 5) rfl)) (by decide) rfl rfl (Or.inl (List.mem_of_getElem? (i := 0) rfl)) d1_22 (vs' := [(.ref kd), (.int sz), .null, .null, (.int (0 : Int32)), (.int (0 : Int32)), (.int (0 : Int32)), (.int (0 : Int32)), (.int (0 : Int32)), (.int (0 : Int32)), (.int (0 : Int32)), (.int (0 : Int32)), .null, (.int (0 : Int32))]) rfl (fun T5 h5 P5 K5 O5 => ?_)
  show OwnDone p e below _ (T5.setTop (mkF m 25 #[.val (.ref a1), .val (.ref kd), .val (.int sz), .val .null, .val .null, .val (.int nu), .val (.int bh), .val (.int ng), .val (.int mi), .val (.int mx), .val (.int gr), .val (.int fg), .val (.int gp), .val .null, .val (.int cs)] []))
  refine OwnDone.go (A := (T5.setTop (mkF m 28 #[.val (.ref a1), .val (.ref kd), .val (.int sz), .val .null, .val .null, .val (.int nu), .val (.int bh), .val (.int ng), .val (.int mi), .val (.int mx), .val (.int gr), .val (.int fg), .val (.int gp), .val .null, .val (.int cs)] [(.int nu), (.ref a1)]))) (fun tQ kQ => ?_) ?_
  · refine XS.aloadN P5.here hx rfl (hb hby d1_25) rfl rfl ?_
    show Steps p.tables e below (T5.setTop (mkF m 26 #[.val (.ref a1), .val (.ref kd), .val (.int sz), .val .null, .val .null, .val (.int nu), .val (.int bh), .val (.int ng), .val (.int mi), .val (.int mx), .val (.int gr), .val (.int fg), .val (.int gp), .val .null, .val (.int cs)] [(.ref a1)])) _
    refine XS.iload P5.here hx rfl (hb hby d1_26) rfl ?_
    show Steps p.tables e below (T5.setTop (mkF m 28 #[.val (.ref a1), .val (.ref kd), .val (.int sz), .val .null, .val .null, .val (.int nu), .val (.int bh), .val (.int ng), .val (.int mi), .val (.int mx), .val (.int gr), .val (.int fg), .val (.int gp), .val .null, .val (.int cs)] [(.int nu), (.ref a1)])) _
    exact kQ
  show OwnDone p e below _ (T5.setTop (mkF m 28 #[.val (.ref a1), .val (.ref kd), .val (.int sz), .val .null, .val .null, .val (.int nu), .val (.int bh), .val (.int ng), .val (.int mi), .val (.int mx), .val (.int gr), .val (.int fg), .val (.int gp), .val .null, .val (.int cs)] [(.int nu), (.ref a1)]))
  refine own_putO (ty := .int) C P5 (hw _ (List.mem_of_getElem? (i := 23) rfl)) Via.refl O5 (own_laid0 hw) 4 rfl rfl (Or.inr ⟨(hw _ (List.mem_of_getElem? (i := 24) rfl)), rfl, rfl⟩) (hw _ (List.mem_of_getElem? (i := 5) rfl)) (by decide) rfl rfl (Or.inl (List.mem_of_getElem? (i := 0) rfl)) d1_28 (vs' := [(.ref kd), (.int sz), .null, .null, (.int nu), (.int (0 : Int32)), (.int (0 : Int32)), (.int (0 : Int32)), (.int (0 : Int32)), (.int (0 : Int32)), (.int (0 : Int32)), (.int (0 : Int32)), .null, (.int (0 : Int32))]) rfl (fun T6 h6 P6 K6 O6 => ?_)
  show OwnDone p e below _ (T6.setTop (mkF m 31 #[.val (.ref a1), .val (.ref kd), .val (.int sz), .val .null, .val .null, .val (.int nu), .val (.int bh), .val (.int ng), .val (.int mi), .val (.int mx), .val (.int gr), .val (.int fg), .val (.int gp), .val .null, .val (.int cs)] []))
  refine OwnDone.go (A := (T6.setTop (mkF m 34 #[.val (.ref a1), .val (.ref kd), .val (.int sz), .val .null, .val .null, .val (.int nu), .val (.int bh), .val (.int ng), .val (.int mi), .val (.int mx), .val (.int gr), .val (.int fg), .val (.int gp), .val .null, .val (.int cs)] [(.int bh), (.ref a1)]))) (fun tQ kQ => ?_) ?_
  · refine XS.aloadN P6.here hx rfl (hb hby d1_31) rfl rfl ?_
    show Steps p.tables e below (T6.setTop (mkF m 32 #[.val (.ref a1), .val (.ref kd), .val (.int sz), .val .null, .val .null, .val (.int nu), .val (.int bh), .val (.int ng), .val (.int mi), .val (.int mx), .val (.int gr), .val (.int fg), .val (.int gp), .val .null, .val (.int cs)] [(.ref a1)])) _
    refine XS.iload P6.here hx rfl (hb hby d1_32) rfl ?_
    show Steps p.tables e below (T6.setTop (mkF m 34 #[.val (.ref a1), .val (.ref kd), .val (.int sz), .val .null, .val .null, .val (.int nu), .val (.int bh), .val (.int ng), .val (.int mi), .val (.int mx), .val (.int gr), .val (.int fg), .val (.int gp), .val .null, .val (.int cs)] [(.int bh), (.ref a1)])) _
    exact kQ
  show OwnDone p e below _ (T6.setTop (mkF m 34 #[.val (.ref a1), .val (.ref kd), .val (.int sz), .val .null, .val .null, .val (.int nu), .val (.int bh), .val (.int ng), .val (.int mi), .val (.int mx), .val (.int gr), .val (.int fg), .val (.int gp), .val .null, .val (.int cs)] [(.int bh), (.ref a1)]))
  refine own_putO (ty := .boolean) C P6 (hw _ (List.mem_of_getElem? (i := 25) rfl)) Via.refl O6 (own_laid0 hw) 5 rfl rfl (Or.inr ⟨(hw _ (List.mem_of_getElem? (i := 26) rfl)), rfl, rfl⟩) (hw _ (List.mem_of_getElem? (i := 5) rfl)) (by decide) (own_nb b_bh) (own_fb b_bh) (Or.inl (List.mem_of_getElem? (i := 0) rfl)) d1_34 (vs' := [(.ref kd), (.int sz), .null, .null, (.int nu), (.int bh), (.int (0 : Int32)), (.int (0 : Int32)), (.int (0 : Int32)), (.int (0 : Int32)), (.int (0 : Int32)), (.int (0 : Int32)), .null, (.int (0 : Int32))]) rfl (fun T7 h7 P7 K7 O7 => ?_)
  show OwnDone p e below _ (T7.setTop (mkF m 37 #[.val (.ref a1), .val (.ref kd), .val (.int sz), .val .null, .val .null, .val (.int nu), .val (.int bh), .val (.int ng), .val (.int mi), .val (.int mx), .val (.int gr), .val (.int fg), .val (.int gp), .val .null, .val (.int cs)] []))
  refine OwnDone.go (A := (T7.setTop (mkF m 40 #[.val (.ref a1), .val (.ref kd), .val (.int sz), .val .null, .val .null, .val (.int nu), .val (.int bh), .val (.int ng), .val (.int mi), .val (.int mx), .val (.int gr), .val (.int fg), .val (.int gp), .val .null, .val (.int cs)] [(.int ng), (.ref a1)]))) (fun tQ kQ => ?_) ?_
  · refine XS.aloadN P7.here hx rfl (hb hby d1_37) rfl rfl ?_
    show Steps p.tables e below (T7.setTop (mkF m 38 #[.val (.ref a1), .val (.ref kd), .val (.int sz), .val .null, .val .null, .val (.int nu), .val (.int bh), .val (.int ng), .val (.int mi), .val (.int mx), .val (.int gr), .val (.int fg), .val (.int gp), .val .null, .val (.int cs)] [(.ref a1)])) _
    refine XS.iload P7.here hx rfl (hb hby d1_38) rfl ?_
    show Steps p.tables e below (T7.setTop (mkF m 40 #[.val (.ref a1), .val (.ref kd), .val (.int sz), .val .null, .val .null, .val (.int nu), .val (.int bh), .val (.int ng), .val (.int mi), .val (.int mx), .val (.int gr), .val (.int fg), .val (.int gp), .val .null, .val (.int cs)] [(.int ng), (.ref a1)])) _
    exact kQ
  show OwnDone p e below _ (T7.setTop (mkF m 40 #[.val (.ref a1), .val (.ref kd), .val (.int sz), .val .null, .val .null, .val (.int nu), .val (.int bh), .val (.int ng), .val (.int mi), .val (.int mx), .val (.int gr), .val (.int fg), .val (.int gp), .val .null, .val (.int cs)] [(.int ng), (.ref a1)]))
  refine own_putO (ty := .boolean) C P7 (hw _ (List.mem_of_getElem? (i := 27) rfl)) Via.refl O7 (own_laid0 hw) 6 rfl rfl (Or.inr ⟨(hw _ (List.mem_of_getElem? (i := 28) rfl)), rfl, rfl⟩) (hw _ (List.mem_of_getElem? (i := 5) rfl)) (by decide) (own_nb b_ng) (own_fb b_ng) (Or.inl (List.mem_of_getElem? (i := 0) rfl)) d1_40 (vs' := [(.ref kd), (.int sz), .null, .null, (.int nu), (.int bh), (.int ng), (.int (0 : Int32)), (.int (0 : Int32)), (.int (0 : Int32)), (.int (0 : Int32)), (.int (0 : Int32)), .null, (.int (0 : Int32))]) rfl (fun T8 h8 P8 K8 O8 => ?_)
  show OwnDone p e below _ (T8.setTop (mkF m 43 #[.val (.ref a1), .val (.ref kd), .val (.int sz), .val .null, .val .null, .val (.int nu), .val (.int bh), .val (.int ng), .val (.int mi), .val (.int mx), .val (.int gr), .val (.int fg), .val (.int gp), .val .null, .val (.int cs)] []))
  refine OwnDone.go (A := (T8.setTop (mkF m 46 #[.val (.ref a1), .val (.ref kd), .val (.int sz), .val .null, .val .null, .val (.int nu), .val (.int bh), .val (.int ng), .val (.int mi), .val (.int mx), .val (.int gr), .val (.int fg), .val (.int gp), .val .null, .val (.int cs)] [(.int mi), (.ref a1)]))) (fun tQ kQ => ?_) ?_
  · refine XS.aloadN P8.here hx rfl (hb hby d1_43) rfl rfl ?_
    show Steps p.tables e below (T8.setTop (mkF m 44 #[.val (.ref a1), .val (.ref kd), .val (.int sz), .val .null, .val .null, .val (.int nu), .val (.int bh), .val (.int ng), .val (.int mi), .val (.int mx), .val (.int gr), .val (.int fg), .val (.int gp), .val .null, .val (.int cs)] [(.ref a1)])) _
    refine XS.iload P8.here hx rfl (hb hby d1_44) rfl ?_
    show Steps p.tables e below (T8.setTop (mkF m 46 #[.val (.ref a1), .val (.ref kd), .val (.int sz), .val .null, .val .null, .val (.int nu), .val (.int bh), .val (.int ng), .val (.int mi), .val (.int mx), .val (.int gr), .val (.int fg), .val (.int gp), .val .null, .val (.int cs)] [(.int mi), (.ref a1)])) _
    exact kQ
  show OwnDone p e below _ (T8.setTop (mkF m 46 #[.val (.ref a1), .val (.ref kd), .val (.int sz), .val .null, .val .null, .val (.int nu), .val (.int bh), .val (.int ng), .val (.int mi), .val (.int mx), .val (.int gr), .val (.int fg), .val (.int gp), .val .null, .val (.int cs)] [(.int mi), (.ref a1)]))
  refine own_putO (ty := .int) C P8 (hw _ (List.mem_of_getElem? (i := 29) rfl)) Via.refl O8 (own_laid0 hw) 7 rfl rfl (Or.inr ⟨(hw _ (List.mem_of_getElem? (i := 30) rfl)), rfl, rfl⟩) (hw _ (List.mem_of_getElem? (i := 5) rfl)) (by decide) rfl rfl (Or.inl (List.mem_of_getElem? (i := 0) rfl)) d1_46 (vs' := [(.ref kd), (.int sz), .null, .null, (.int nu), (.int bh), (.int ng), (.int mi), (.int (0 : Int32)), (.int (0 : Int32)), (.int (0 : Int32)), (.int (0 : Int32)), .null, (.int (0 : Int32))]) rfl (fun T9 h9 P9 K9 O9 => ?_)
  show OwnDone p e below _ (T9.setTop (mkF m 49 #[.val (.ref a1), .val (.ref kd), .val (.int sz), .val .null, .val .null, .val (.int nu), .val (.int bh), .val (.int ng), .val (.int mi), .val (.int mx), .val (.int gr), .val (.int fg), .val (.int gp), .val .null, .val (.int cs)] []))
  refine OwnDone.go (A := (T9.setTop (mkF m 52 #[.val (.ref a1), .val (.ref kd), .val (.int sz), .val .null, .val .null, .val (.int nu), .val (.int bh), .val (.int ng), .val (.int mi), .val (.int mx), .val (.int gr), .val (.int fg), .val (.int gp), .val .null, .val (.int cs)] [(.int mx), (.ref a1)]))) (fun tQ kQ => ?_) ?_
  · refine XS.aloadN P9.here hx rfl (hb hby d1_49) rfl rfl ?_
    show Steps p.tables e below (T9.setTop (mkF m 50 #[.val (.ref a1), .val (.ref kd), .val (.int sz), .val .null, .val .null, .val (.int nu), .val (.int bh), .val (.int ng), .val (.int mi), .val (.int mx), .val (.int gr), .val (.int fg), .val (.int gp), .val .null, .val (.int cs)] [(.ref a1)])) _
    refine XS.iload P9.here hx rfl (hb hby d1_50) rfl ?_
    show Steps p.tables e below (T9.setTop (mkF m 52 #[.val (.ref a1), .val (.ref kd), .val (.int sz), .val .null, .val .null, .val (.int nu), .val (.int bh), .val (.int ng), .val (.int mi), .val (.int mx), .val (.int gr), .val (.int fg), .val (.int gp), .val .null, .val (.int cs)] [(.int mx), (.ref a1)])) _
    exact kQ
  show OwnDone p e below _ (T9.setTop (mkF m 52 #[.val (.ref a1), .val (.ref kd), .val (.int sz), .val .null, .val .null, .val (.int nu), .val (.int bh), .val (.int ng), .val (.int mi), .val (.int mx), .val (.int gr), .val (.int fg), .val (.int gp), .val .null, .val (.int cs)] [(.int mx), (.ref a1)]))
  refine own_putO (ty := .int) C P9 (hw _ (List.mem_of_getElem? (i := 31) rfl)) Via.refl O9 (own_laid0 hw) 8 rfl rfl (Or.inr ⟨(hw _ (List.mem_of_getElem? (i := 32) rfl)), rfl, rfl⟩) (hw _ (List.mem_of_getElem? (i := 5) rfl)) (by decide) rfl rfl (Or.inl (List.mem_of_getElem? (i := 0) rfl)) d1_52 (vs' := [(.ref kd), (.int sz), .null, .null, (.int nu), (.int bh), (.int ng), (.int mi), (.int mx), (.int (0 : Int32)), (.int (0 : Int32)), (.int (0 : Int32)), .null, (.int (0 : Int32))]) rfl (fun T10 h10 P10 K10 O10 => ?_)
  show OwnDone p e below _ (T10.setTop (mkF m 55 #[.val (.ref a1), .val (.ref kd), .val (.int sz), .val .null, .val .null, .val (.int nu), .val (.int bh), .val (.int ng), .val (.int mi), .val (.int mx), .val (.int gr), .val (.int fg), .val (.int gp), .val .null, .val (.int cs)] []))
  refine OwnDone.go (A := (T10.setTop (mkF m 58 #[.val (.ref a1), .val (.ref kd), .val (.int sz), .val .null, .val .null, .val (.int nu), .val (.int bh), .val (.int ng), .val (.int mi), .val (.int mx), .val (.int gr), .val (.int fg), .val (.int gp), .val .null, .val (.int cs)] [(.int gr), (.ref a1)]))) (fun tQ kQ => ?_) ?_
  · refine XS.aloadN P10.here hx rfl (hb hby d1_55) rfl rfl ?_
    show Steps p.tables e below (T10.setTop (mkF m 56 #[.val (.ref a1), .val (.ref kd), .val (.int sz), .val .null, .val .null, .val (.int nu), .val (.int bh), .val (.int ng), .val (.int mi), .val (.int mx), .val (.int gr), .val (.int fg), .val (.int gp), .val .null, .val (.int cs)] [(.ref a1)])) _
    refine XS.iload P10.here hx rfl (hb hby d1_56) rfl ?_
    show Steps p.tables e below (T10.setTop (mkF m 58 #[.val (.ref a1), .val (.ref kd), .val (.int sz), .val .null, .val .null, .val (.int nu), .val (.int bh), .val (.int ng), .val (.int mi), .val (.int mx), .val (.int gr), .val (.int fg), .val (.int gp), .val .null, .val (.int cs)] [(.int gr), (.ref a1)])) _
    exact kQ
  show OwnDone p e below _ (T10.setTop (mkF m 58 #[.val (.ref a1), .val (.ref kd), .val (.int sz), .val .null, .val .null, .val (.int nu), .val (.int bh), .val (.int ng), .val (.int mi), .val (.int mx), .val (.int gr), .val (.int fg), .val (.int gp), .val .null, .val (.int cs)] [(.int gr), (.ref a1)]))
  refine own_putO (ty := .boolean) C P10 (hw _ (List.mem_of_getElem? (i := 33) rfl)) Via.refl O10 (own_laid0 hw) 9 rfl rfl (Or.inr ⟨(hw _ (List.mem_of_getElem? (i := 34) rfl)), rfl, rfl⟩) (hw _ (List.mem_of_getElem? (i := 5) rfl)) (by decide) (own_nb b_gr) (own_fb b_gr) (Or.inl (List.mem_of_getElem? (i := 0) rfl)) d1_58 (vs' := [(.ref kd), (.int sz), .null, .null, (.int nu), (.int bh), (.int ng), (.int mi), (.int mx), (.int gr), (.int (0 : Int32)), (.int (0 : Int32)), .null, (.int (0 : Int32))]) rfl (fun T11 h11 P11 K11 O11 => ?_)
  show OwnDone p e below _ (T11.setTop (mkF m 61 #[.val (.ref a1), .val (.ref kd), .val (.int sz), .val .null, .val .null, .val (.int nu), .val (.int bh), .val (.int ng), .val (.int mi), .val (.int mx), .val (.int gr), .val (.int fg), .val (.int gp), .val .null, .val (.int cs)] []))
  refine OwnDone.go (A := (T11.setTop (mkF m 64 #[.val (.ref a1), .val (.ref kd), .val (.int sz), .val .null, .val .null, .val (.int nu), .val (.int bh), .val (.int ng), .val (.int mi), .val (.int mx), .val (.int gr), .val (.int fg), .val (.int gp), .val .null, .val (.int cs)] [(.int fg), (.ref a1)]))) (fun tQ kQ => ?_) ?_
  · refine XS.aloadN P11.here hx rfl (hb hby d1_61) rfl rfl ?_
    show Steps p.tables e below (T11.setTop (mkF m 62 #[.val (.ref a1), .val (.ref kd), .val (.int sz), .val .null, .val .null, .val (.int nu), .val (.int bh), .val (.int ng), .val (.int mi), .val (.int mx), .val (.int gr), .val (.int fg), .val (.int gp), .val .null, .val (.int cs)] [(.ref a1)])) _
    refine XS.iload P11.here hx rfl (hb hby d1_62) rfl ?_
    show Steps p.tables e below (T11.setTop (mkF m 64 #[.val (.ref a1), .val (.ref kd), .val (.int sz), .val .null, .val .null, .val (.int nu), .val (.int bh), .val (.int ng), .val (.int mi), .val (.int mx), .val (.int gr), .val (.int fg), .val (.int gp), .val .null, .val (.int cs)] [(.int fg), (.ref a1)])) _
    exact kQ
  show OwnDone p e below _ (T11.setTop (mkF m 64 #[.val (.ref a1), .val (.ref kd), .val (.int sz), .val .null, .val .null, .val (.int nu), .val (.int bh), .val (.int ng), .val (.int mi), .val (.int mx), .val (.int gr), .val (.int fg), .val (.int gp), .val .null, .val (.int cs)] [(.int fg), (.ref a1)]))
  refine own_putO (ty := .int) C P11 (hw _ (List.mem_of_getElem? (i := 35) rfl)) Via.refl O11 (own_laid0 hw) 10 rfl rfl (Or.inr ⟨(hw _ (List.mem_of_getElem? (i := 36) rfl)), rfl, rfl⟩) (hw _ (List.mem_of_getElem? (i := 5) rfl)) (by decide) rfl rfl (Or.inl (List.mem_of_getElem? (i := 0) rfl)) d1_64 (vs' := [(.ref kd), (.int sz), .null, .null, (.int nu), (.int bh), (.int ng), (.int mi), (.int mx), (.int gr), (.int fg), (.int (0 : Int32)), .null, (.int (0 : Int32))]) rfl (fun T12 h12 P12 K12 O12 => ?_)
  show OwnDone p e below _ (T12.setTop (mkF m 67 #[.val (.ref a1), .val (.ref kd), .val (.int sz), .val .null, .val .null, .val (.int nu), .val (.int bh), .val (.int ng), .val (.int mi), .val (.int mx), .val (.int gr), .val (.int fg), .val (.int gp), .val .null, .val (.int cs)] []))
  refine OwnDone.go (A := (T12.setTop (mkF m 70 #[.val (.ref a1), .val (.ref kd), .val (.int sz), .val .null, .val .null, .val (.int nu), .val (.int bh), .val (.int ng), .val (.int mi), .val (.int mx), .val (.int gr), .val (.int fg), .val (.int gp), .val .null, .val (.int cs)] [(.int gp), (.ref a1)]))) (fun tQ kQ => ?_) ?_
  · refine XS.aloadN P12.here hx rfl (hb hby d1_67) rfl rfl ?_
    show Steps p.tables e below (T12.setTop (mkF m 68 #[.val (.ref a1), .val (.ref kd), .val (.int sz), .val .null, .val .null, .val (.int nu), .val (.int bh), .val (.int ng), .val (.int mi), .val (.int mx), .val (.int gr), .val (.int fg), .val (.int gp), .val .null, .val (.int cs)] [(.ref a1)])) _
    refine XS.iload P12.here hx rfl (hb hby d1_68) rfl ?_
    show Steps p.tables e below (T12.setTop (mkF m 70 #[.val (.ref a1), .val (.ref kd), .val (.int sz), .val .null, .val .null, .val (.int nu), .val (.int bh), .val (.int ng), .val (.int mi), .val (.int mx), .val (.int gr), .val (.int fg), .val (.int gp), .val .null, .val (.int cs)] [(.int gp), (.ref a1)])) _
    exact kQ
  show OwnDone p e below _ (T12.setTop (mkF m 70 #[.val (.ref a1), .val (.ref kd), .val (.int sz), .val .null, .val .null, .val (.int nu), .val (.int bh), .val (.int ng), .val (.int mi), .val (.int mx), .val (.int gr), .val (.int fg), .val (.int gp), .val .null, .val (.int cs)] [(.int gp), (.ref a1)]))
  refine own_putO (ty := .int) C P12 (hw _ (List.mem_of_getElem? (i := 37) rfl)) Via.refl O12 (own_laid0 hw) 11 rfl rfl (Or.inr ⟨(hw _ (List.mem_of_getElem? (i := 38) rfl)), rfl, rfl⟩) (hw _ (List.mem_of_getElem? (i := 5) rfl)) (by decide) rfl rfl (Or.inl (List.mem_of_getElem? (i := 0) rfl)) d1_70 (vs' := [(.ref kd), (.int sz), .null, .null, (.int nu), (.int bh), (.int ng), (.int mi), (.int mx), (.int gr), (.int fg), (.int gp), .null, (.int (0 : Int32))]) rfl (fun T13 h13 P13 K13 O13 => ?_)
  show OwnDone p e below _ (T13.setTop (mkF m 73 #[.val (.ref a1), .val (.ref kd), .val (.int sz), .val .null, .val .null, .val (.int nu), .val (.int bh), .val (.int ng), .val (.int mi), .val (.int mx), .val (.int gr), .val (.int fg), .val (.int gp), .val .null, .val (.int cs)] []))
  refine OwnDone.go (A := (T13.setTop (mkF m 76 #[.val (.ref a1), .val (.ref kd), .val (.int sz), .val .null, .val .null, .val (.int nu), .val (.int bh), .val (.int ng), .val (.int mi), .val (.int mx), .val (.int gr), .val (.int fg), .val (.int gp), .val .null, .val (.int cs)] [.null, (.ref a1)]))) (fun tQ kQ => ?_) ?_
  · refine XS.aloadN P13.here hx rfl (hb hby d1_73) rfl rfl ?_
    show Steps p.tables e below (T13.setTop (mkF m 74 #[.val (.ref a1), .val (.ref kd), .val (.int sz), .val .null, .val .null, .val (.int nu), .val (.int bh), .val (.int ng), .val (.int mi), .val (.int mx), .val (.int gr), .val (.int fg), .val (.int gp), .val .null, .val (.int cs)] [(.ref a1)])) _
    refine XS.aload P13.here hx rfl (hb hby d1_74) rfl rfl ?_
    show Steps p.tables e below (T13.setTop (mkF m 76 #[.val (.ref a1), .val (.ref kd), .val (.int sz), .val .null, .val .null, .val (.int nu), .val (.int bh), .val (.int ng), .val (.int mi), .val (.int mx), .val (.int gr), .val (.int fg), .val (.int gp), .val .null, .val (.int cs)] [.null, (.ref a1)])) _
    exact kQ
  show OwnDone p e below _ (T13.setTop (mkF m 76 #[.val (.ref a1), .val (.ref kd), .val (.int sz), .val .null, .val .null, .val (.int nu), .val (.int bh), .val (.int ng), .val (.int mi), .val (.int mx), .val (.int gr), .val (.int fg), .val (.int gp), .val .null, .val (.int cs)] [.null, (.ref a1)]))
  refine own_putO (ty := (.array .int)) C P13 (hw _ (List.mem_of_getElem? (i := 39) rfl)) Via.refl O13 (own_laid0 hw) 12 rfl rfl (Or.inr ⟨(hw _ (List.mem_of_getElem? (i := 40) rfl)), rfl, rfl⟩) (hw _ (List.mem_of_getElem? (i := 5) rfl)) (by decide) rfl rfl (Or.inl (List.mem_of_getElem? (i := 0) rfl)) d1_76 (vs' := [(.ref kd), (.int sz), .null, .null, (.int nu), (.int bh), (.int ng), (.int mi), (.int mx), (.int gr), (.int fg), (.int gp), .null, (.int (0 : Int32))]) rfl (fun T14 h14 P14 K14 O14 => ?_)
  show OwnDone p e below _ (T14.setTop (mkF m 79 #[.val (.ref a1), .val (.ref kd), .val (.int sz), .val .null, .val .null, .val (.int nu), .val (.int bh), .val (.int ng), .val (.int mi), .val (.int mx), .val (.int gr), .val (.int fg), .val (.int gp), .val .null, .val (.int cs)] []))
  refine OwnDone.go (A := (T14.setTop (mkF m 82 #[.val (.ref a1), .val (.ref kd), .val (.int sz), .val .null, .val .null, .val (.int nu), .val (.int bh), .val (.int ng), .val (.int mi), .val (.int mx), .val (.int gr), .val (.int fg), .val (.int gp), .val .null, .val (.int cs)] [(.int cs), (.ref a1)]))) (fun tQ kQ => ?_) ?_
  · refine XS.aloadN P14.here hx rfl (hb hby d1_79) rfl rfl ?_
    show Steps p.tables e below (T14.setTop (mkF m 80 #[.val (.ref a1), .val (.ref kd), .val (.int sz), .val .null, .val .null, .val (.int nu), .val (.int bh), .val (.int ng), .val (.int mi), .val (.int mx), .val (.int gr), .val (.int fg), .val (.int gp), .val .null, .val (.int cs)] [(.ref a1)])) _
    refine XS.iload P14.here hx rfl (hb hby d1_80) rfl ?_
    show Steps p.tables e below (T14.setTop (mkF m 82 #[.val (.ref a1), .val (.ref kd), .val (.int sz), .val .null, .val .null, .val (.int nu), .val (.int bh), .val (.int ng), .val (.int mi), .val (.int mx), .val (.int gr), .val (.int fg), .val (.int gp), .val .null, .val (.int cs)] [(.int cs), (.ref a1)])) _
    exact kQ
  show OwnDone p e below _ (T14.setTop (mkF m 82 #[.val (.ref a1), .val (.ref kd), .val (.int sz), .val .null, .val .null, .val (.int nu), .val (.int bh), .val (.int ng), .val (.int mi), .val (.int mx), .val (.int gr), .val (.int fg), .val (.int gp), .val .null, .val (.int cs)] [(.int cs), (.ref a1)]))
  refine own_putO (ty := .boolean) C P14 (hw _ (List.mem_of_getElem? (i := 41) rfl)) Via.refl O14 (own_laid0 hw) 13 rfl rfl (Or.inr ⟨(hw _ (List.mem_of_getElem? (i := 42) rfl)), rfl, rfl⟩) (hw _ (List.mem_of_getElem? (i := 5) rfl)) (by decide) (own_nb b_cs) (own_fb b_cs) (Or.inl (List.mem_of_getElem? (i := 0) rfl)) d1_82 (vs' := [(.ref kd), (.int sz), .null, .null, (.int nu), (.int bh), (.int ng), (.int mi), (.int mx), (.int gr), (.int fg), (.int gp), .null, (.int cs)]) rfl (fun T15 h15 P15 K15 O15 => ?_)
  show OwnDone p e below _ (T15.setTop (mkF m 85 #[.val (.ref a1), .val (.ref kd), .val (.int sz), .val .null, .val .null, .val (.int nu), .val (.int bh), .val (.int ng), .val (.int mi), .val (.int mx), .val (.int gr), .val (.int fg), .val (.int gp), .val .null, .val (.int cs)] []))
  refine own_retV C P15 d1_85 (by decide) (by decide) ⟨rfl, O15⟩
theorem d2_0 : decode prog_16_method_11_code 0 = .ok (.new 2, 3) := by decide +kernel
theorem d2_3 : decode prog_16_method_11_code 3 = .ok (.dup, 1) := by decide +kernel
theorem d2_4 : decode prog_16_method_11_code 4 = .ok (.getstatic 89, 3) := by decide +kernel
theorem d2_7 : decode prog_16_method_11_code 7 = .ok (.iconst 1, 1) := by decide +kernel
theorem d2_8 : decode prog_16_method_11_code 8 = .ok (.iload 5, 2) := by decide +kernel
theorem d2_10 : decode prog_16_method_11_code 10 = .ok (.iadd, 1) := by decide +kernel
theorem d2_11 : decode prog_16_method_11_code 11 = .ok (.aconst_null, 1) := by decide +kernel
theorem d2_12 : decode prog_16_method_11_code 12 = .ok (.aconst_null, 1) := by decide +kernel
theorem d2_13 : decode prog_16_method_11_code 13 = .ok (.iconst 0, 1) := by decide +kernel
theorem d2_14 : decode prog_16_method_11_code 14 = .ok (.iconst 0, 1) := by decide +kernel
theorem d2_15 : decode prog_16_method_11_code 15 = .ok (.iconst 0, 1) := by decide +kernel
theorem d2_16 : decode prog_16_method_11_code 16 = .ok (.iload_n 0, 1) := by decide +kernel
theorem d2_17 : decode prog_16_method_11_code 17 = .ok (.iload_n 1, 1) := by decide +kernel
theorem d2_18 : decode prog_16_method_11_code 18 = .ok (.iload_n 2, 1) := by decide +kernel
theorem d2_19 : decode prog_16_method_11_code 19 = .ok (.iload_n 3, 1) := by decide +kernel
theorem d2_20 : decode prog_16_method_11_code 20 = .ok (.iload 4, 2) := by decide +kernel
theorem d2_22 : decode prog_16_method_11_code 22 = .ok (.aconst_null, 1) := by decide +kernel
theorem d2_23 : decode prog_16_method_11_code 23 = .ok (.iconst 0, 1) := by decide +kernel
theorem d2_24 : decode prog_16_method_11_code 24 = .ok (.invokespecial 1, 3) := by decide +kernel
theorem d2_27 : decode prog_16_method_11_code 27 = .ok (.areturn, 1) := by decide +kernel
theorem pn2 : plainName "com/example/bounded_array/boundedarray/regex/Node" = true := by first | (simp [plainName, overriddenIn]; done) | decide +kernel
theorem ef2 (m : MethodId) (mi : Int32) (mx : Int32) (gr : Int32) (fg : Int32) (gp : Int32) (be : Int32)  : entryFrame m #[(.int mi), (.int mx), (.int gr), (.int fg), (.int gp), (.int be)] 6 = mkF m 0 #[.val (.int mi), .val (.int mx), .val (.int gr), .val (.int fg), .val (.int gp), .val (.int be)] [] := by first | (simp [entryFrame, mkF, argsToLocals, Value.category]; done) | rfl
set_option maxRecDepth 65536 in
set_option maxHeartbeats 40000000 in
theorem rm2 (l : Launch) (Z : State) (a0 : Array Value) (hw : ∀ d ∈ tables_1, d.before a0 Z = true) (mi : Int32) (mx : Int32) (gr : Int32) (fg : Int32) (gp : Int32) (be : Int32)  (h0 : Heap) (hE : Ext Z.heap h0)  (b_gr : gr = 0 ∨ gr = 1) (kd : Addr) (S0 : Sta Z Z.heap "com/example/bounded_array/boundedarray/regex/Node$Kind" "REPETITION" "Lcom/example/bounded_array/boundedarray/regex/Node$Kind;" (.ref kd)) :
    OwnMeets l (⟨"com/example/bounded_array/boundedarray/regex/Node", "repetition", "(IIZIII)Lcom/example/bounded_array/boundedarray/regex/Node;"⟩ : MethodName) prog_16_method_11_code 6 (some (.object "com/example/bounded_array/boundedarray/regex/Node")) ({ frames := 2, cells := 1, slots := 14, locals := 39 } : Room) Z [] #[(.int mi), (.int mx), (.int gr), (.int fg), (.int gp), (.int be)] h0 (fun v h => ∃ a, v = some (.ref a) ∧ h0.size ≤ a ∧ OwnObj Z h a "com/example/bounded_array/boundedarray/regex/Node" own_lay0 [(.ref kd), (.int ((1 : Int32) + be)), .null, .null, (.int (0 : Int32)), (.int (0 : Int32)), (.int (0 : Int32)), (.int mi), (.int mx), (.int gr), (.int fg), (.int gp), .null, (.int (0 : Int32))]) := by
  refine OwnMeets.of (plainFor_of_name pn2) hE all0 ?_
  intro p e s m below meth c T C P
  have hx := C.1
  have hby := C.2.2.2.2.1
  rw [show entryFrame m #[(.int mi), (.int mx), (.int gr), (.int fg), (.int gp), (.int be)] 6 = _ from ef2 m mi mx gr fg gp be]
  show OwnDone p e below _ (T.setTop (mkF m 0 #[.val (.int mi), .val (.int mx), .val (.int gr), .val (.int fg), .val (.int gp), .val (.int be)] []))
  refine own_new (vs := [.null, (.int (0 : Int32)), .null, .null, (.int (0 : Int32)), (.int (0 : Int32)), (.int (0 : Int32)), (.int (0 : Int32)), (.int (0 : Int32)), (.int (0 : Int32)), (.int (0 : Int32)), (.int (0 : Int32)), .null, (.int (0 : Int32))]) C P (hw _ (List.mem_of_getElem? (i := 4) rfl)) (hw _ (List.mem_of_getElem? (i := 5) rfl)) (hw _ (List.mem_of_getElem? (i := 2) rfl)) (own_laid0 hw) (by decide +kernel) d2_0 (by decide) (by decide) (fun T1 h1 a1 ga1 la1 P1 K1 O1 => ?_)
  have ge_a1 : h0.size ≤ a1 := by rw [ga1]; exact P.keep.1
  show OwnDone p e below _ (T1.setTop (mkF m 3 #[.val (.int mi), .val (.int mx), .val (.int gr), .val (.int fg), .val (.int gp), .val (.int be)] [(.ref a1)]))
  refine OwnDone.go (A := (T1.setTop (mkF m 4 #[.val (.int mi), .val (.int mx), .val (.int gr), .val (.int fg), .val (.int gp), .val (.int be)] [(.ref a1), (.ref a1)]))) (fun tQ kQ => ?_) ?_
  · refine XS.dup P1.here hx rfl (hb hby d2_3) rfl rfl ?_
    show Steps p.tables e below (T1.setTop (mkF m 4 #[.val (.int mi), .val (.int mx), .val (.int gr), .val (.int fg), .val (.int gp), .val (.int be)] [(.ref a1), (.ref a1)])) _
    exact kQ
  show OwnDone p e below _ (T1.setTop (mkF m 4 #[.val (.int mi), .val (.int mx), .val (.int gr), .val (.int fg), .val (.int gp), .val (.int be)] [(.ref a1), (.ref a1)]))
  refine own_getS C P1 (host := "") (Or.inl (hw _ (List.mem_of_getElem? (i := 6) rfl))) Via.refl S0 d2_4 (fun T2 P2 => ?_)
  show OwnDone p e below _ (T2.setTop (mkF m 7 #[.val (.int mi), .val (.int mx), .val (.int gr), .val (.int fg), .val (.int gp), .val (.int be)] [(.ref kd), (.ref a1), (.ref a1)]))
  refine OwnDone.go (A := (T2.setTop (mkF m 24 #[.val (.int mi), .val (.int mx), .val (.int gr), .val (.int fg), .val (.int gp), .val (.int be)] [(.int (0 : Int32)), .null, (.int gp), (.int fg), (.int gr), (.int mx), (.int mi), (.int (0 : Int32)), (.int (0 : Int32)), (.int (0 : Int32)), .null, .null, (.int ((1 : Int32) + be)), (.ref kd), (.ref a1), (.ref a1)]))) (fun tQ kQ => ?_) ?_
  · refine XS.iconst P2.here hx rfl (hb hby d2_7) ?_
    show Steps p.tables e below (T2.setTop (mkF m 8 #[.val (.int mi), .val (.int mx), .val (.int gr), .val (.int fg), .val (.int gp), .val (.int be)] [(.int (1 : Int32)), (.ref kd), (.ref a1), (.ref a1)])) _
    refine XS.iload P2.here hx rfl (hb hby d2_8) rfl ?_
    show Steps p.tables e below (T2.setTop (mkF m 10 #[.val (.int mi), .val (.int mx), .val (.int gr), .val (.int fg), .val (.int gp), .val (.int be)] [(.int be), (.int (1 : Int32)), (.ref kd), (.ref a1), (.ref a1)])) _
    refine XS.iadd P2.here hx rfl (hb hby d2_10) rfl ?_
    show Steps p.tables e below (T2.setTop (mkF m 11 #[.val (.int mi), .val (.int mx), .val (.int gr), .val (.int fg), .val (.int gp), .val (.int be)] [(.int ((1 : Int32) + be)), (.ref kd), (.ref a1), (.ref a1)])) _
    refine XS.aconstNull P2.here hx rfl (hb hby d2_11) ?_
    show Steps p.tables e below (T2.setTop (mkF m 12 #[.val (.int mi), .val (.int mx), .val (.int gr), .val (.int fg), .val (.int gp), .val (.int be)] [.null, (.int ((1 : Int32) + be)), (.ref kd), (.ref a1), (.ref a1)])) _
    refine XS.aconstNull P2.here hx rfl (hb hby d2_12) ?_
    show Steps p.tables e below (T2.setTop (mkF m 13 #[.val (.int mi), .val (.int mx), .val (.int gr), .val (.int fg), .val (.int gp), .val (.int be)] [.null, .null, (.int ((1 : Int32) + be)), (.ref kd), (.ref a1), (.ref a1)])) _
    refine XS.iconst P2.here hx rfl (hb hby d2_13) ?_
    show Steps p.tables e below (T2.setTop (mkF m 14 #[.val (.int mi), .val (.int mx), .val (.int gr), .val (.int fg), .val (.int gp), .val (.int be)] [(.int (0 : Int32)), .null, .null, (.int ((1 : Int32) + be)), (.ref kd), (.ref a1), (.ref a1)])) _
    refine XS.iconst P2.here hx rfl (hb hby d2_14) ?_
    show Steps p.tables e below (T2.setTop (mkF m 15 #[.val (.int mi), .val (.int mx), .val (.int gr), .val (.int fg), .val (.int gp), .val (.int be)] [(.int (0 : Int32)), (.int (0 : Int32)), .null, .null, (.int ((1 : Int32) + be)), (.ref kd), (.ref a1), (.ref a1)])) _
    refine XS.iconst P2.here hx rfl (hb hby d2_15) ?_
    show Steps p.tables e below (T2.setTop (mkF m 16 #[.val (.int mi), .val (.int mx), .val (.int gr), .val (.int fg), .val (.int gp), .val (.int be)] [(.int (0 : Int32)), (.int (0 : Int32)), (.int (0 : Int32)), .null, .null, (.int ((1 : Int32) + be)), (.ref kd), (.ref a1), (.ref a1)])) _
    refine XS.iloadN P2.here hx rfl (hb hby d2_16) rfl ?_
    show Steps p.tables e below (T2.setTop (mkF m 17 #[.val (.int mi), .val (.int mx), .val (.int gr), .val (.int fg), .val (.int gp), .val (.int be)] [(.int mi), (.int (0 : Int32)), (.int (0 : Int32)), (.int (0 : Int32)), .null, .null, (.int ((1 : Int32) + be)), (.ref kd), (.ref a1), (.ref a1)])) _
    refine XS.iloadN P2.here hx rfl (hb hby d2_17) rfl ?_
    show Steps p.tables e below (T2.setTop (mkF m 18 #[.val (.int mi), .val (.int mx), .val (.int gr), .val (.int fg), .val (.int gp), .val (.int be)] [(.int mx), (.int mi), (.int (0 : Int32)), (.int (0 : Int32)), (.int (0 : Int32)), .null, .null, (.int ((1 : Int32) + be)), (.ref kd), (.ref a1), (.ref a1)])) _
    refine XS.iloadN P2.here hx rfl (hb hby d2_18) rfl ?_
    show Steps p.tables e below (T2.setTop (mkF m 19 #[.val (.int mi), .val (.int mx), .val (.int gr), .val (.int fg), .val (.int gp), .val (.int be)] [(.int gr), (.int mx), (.int mi), (.int (0 : Int32)), (.int (0 : Int32)), (.int (0 : Int32)), .null, .null, (.int ((1 : Int32) + be)), (.ref kd), (.ref a1), (.ref a1)])) _
    refine XS.iloadN P2.here hx rfl (hb hby d2_19) rfl ?_
    show Steps p.tables e below (T2.setTop (mkF m 20 #[.val (.int mi), .val (.int mx), .val (.int gr), .val (.int fg), .val (.int gp), .val (.int be)] [(.int fg), (.int gr), (.int mx), (.int mi), (.int (0 : Int32)), (.int (0 : Int32)), (.int (0 : Int32)), .null, .null, (.int ((1 : Int32) + be)), (.ref kd), (.ref a1), (.ref a1)])) _
    refine XS.iload P2.here hx rfl (hb hby d2_20) rfl ?_
    show Steps p.tables e below (T2.setTop (mkF m 22 #[.val (.int mi), .val (.int mx), .val (.int gr), .val (.int fg), .val (.int gp), .val (.int be)] [(.int gp), (.int fg), (.int gr), (.int mx), (.int mi), (.int (0 : Int32)), (.int (0 : Int32)), (.int (0 : Int32)), .null, .null, (.int ((1 : Int32) + be)), (.ref kd), (.ref a1), (.ref a1)])) _
    refine XS.aconstNull P2.here hx rfl (hb hby d2_22) ?_
    show Steps p.tables e below (T2.setTop (mkF m 23 #[.val (.int mi), .val (.int mx), .val (.int gr), .val (.int fg), .val (.int gp), .val (.int be)] [.null, (.int gp), (.int fg), (.int gr), (.int mx), (.int mi), (.int (0 : Int32)), (.int (0 : Int32)), (.int (0 : Int32)), .null, .null, (.int ((1 : Int32) + be)), (.ref kd), (.ref a1), (.ref a1)])) _
    refine XS.iconst P2.here hx rfl (hb hby d2_23) ?_
    show Steps p.tables e below (T2.setTop (mkF m 24 #[.val (.int mi), .val (.int mx), .val (.int gr), .val (.int fg), .val (.int gp), .val (.int be)] [(.int (0 : Int32)), .null, (.int gp), (.int fg), (.int gr), (.int mx), (.int mi), (.int (0 : Int32)), (.int (0 : Int32)), (.int (0 : Int32)), .null, .null, (.int ((1 : Int32) + be)), (.ref kd), (.ref a1), (.ref a1)])) _
    exact kQ
  show OwnDone p e below _ (T2.setTop (mkF m 24 #[.val (.int mi), .val (.int mx), .val (.int gr), .val (.int fg), .val (.int gp), .val (.int be)] [(.int (0 : Int32)), .null, (.int gp), (.int fg), (.int gr), (.int mx), (.int mi), (.int (0 : Int32)), (.int (0 : Int32)), (.int (0 : Int32)), .null, .null, (.int ((1 : Int32) + be)), (.ref kd), (.ref a1), (.ref a1)]))
  refine own_callI (y := (⟨"com/example/bounded_array/boundedarray/regex/Node", "<init>", "(Lcom/example/bounded_array/boundedarray/regex/Node$Kind;ILcom/example/bounded_array/boundedarray/regex/CodePointSet;Lcom/example/bounded_array/boundedarray/regex/Node$Assertion;IZZIIZII[IZ)V"⟩ : MethodName)) C P2 rfl (hw _ (List.mem_of_getElem? (i := 9) rfl)) (hw _ (List.mem_of_getElem? (i := 10) rfl)) (hw _ (List.mem_of_getElem? (i := 2) rfl)) (hw _ (List.mem_of_getElem? (i := 11) rfl)) (by decide) (rm1 l Z a0 hw a1 kd ((1 : Int32) + be) (0 : Int32) (0 : Int32) (0 : Int32) mi mx gr fg gp (0 : Int32) h1 P2.old (Nat.le_trans hE.1 ge_a1) (Or.inl rfl) (Or.inl rfl) b_gr (Or.inl rfl) O1) (as := [(.ref kd), (.int ((1 : Int32) + be)), .null, .null, (.int (0 : Int32)), (.int (0 : Int32)), (.int (0 : Int32)), (.int mi), (.int mx), (.int gr), (.int fg), (.int gp), .null, (.int (0 : Int32))]) (rest := [(.ref a1)]) pd_0 rfl rfl (wd := 1) rfl rfl d2_24 (allS (Or.inr ge_a1) all0) (by decide) (by decide) (by decide) (by decide) (fun T3 h3 v3 P3 K3 hQ3 => ?_)
  obtain ⟨rfl, O3⟩ := hQ3
  show OwnDone p e below _ (T3.setTop (mkF m 27 #[.val (.int mi), .val (.int mx), .val (.int gr), .val (.int fg), .val (.int gp), .val (.int be)] [(.ref a1)]))
  refine own_retA C P3 rfl rfl d2_27 (by decide) (by decide) ⟨_, rfl, ge_a1, O3⟩
theorem pn0 : plainName "com/example/bounded_array/boundedarray/regex/NodeRepetitionPinLaw" = true := by first | (simp [plainName, overriddenIn]; done) | decide +kernel
theorem ef0 (m : MethodId) (p1 : Int32) (p2 : Int32) (p3 : Int32) (p4 : Int32) (p5 : Int32) (p6 : Int32)  : entryFrame m #[(.int p1), (.int p2), (.int p3), (.int p4), (.int p5), (.int p6)] maxLocals = mkF m 0 #[.val (.int p1), .val (.int p2), .val (.int p3), .val (.int p4), .val (.int p5), .val (.int p6), .unset, .unset, .unset, .unset, .unset, .unset] [] := by first | (simp [entryFrame, mkF, argsToLocals, Value.category, maxLocals]; done) | rfl
set_option maxRecDepth 65536 in
set_option maxHeartbeats 40000000 in
theorem rm0 (l : Launch) (Z : State) (a0 : Array Value) (hw : ∀ d ∈ tables_1, d.before a0 Z = true) (p1 : Int32) (p2 : Int32) (p3 : Int32) (p4 : Int32) (p5 : Int32) (p6 : Int32)  (h0 : Heap) (hE : Ext Z.heap h0)  (kd : Addr) (S0 : Sta Z Z.heap "com/example/bounded_array/boundedarray/regex/Node$Kind" "REPETITION" "Lcom/example/bounded_array/boundedarray/regex/Node$Kind;" (.ref kd)) :
    OwnMeets l x code maxLocals ret room_1 Z [] #[(.int p1), (.int p2), (.int p3), (.int p4), (.int p5), (.int p6)] h0 (fun v h => v = some (.int 1)) := by
  refine OwnMeets.of (plainFor_of_name pn0) hE all0 ?_
  intro p e s m below meth c T C P
  have hx := C.1
  have hby := C.2.2.2.2.1
  rw [show entryFrame m #[(.int p1), (.int p2), (.int p3), (.int p4), (.int p5), (.int p6)] maxLocals = _ from ef0 m p1 p2 p3 p4 p5 p6]
  show OwnDone p e below _ (T.setTop (mkF m 0 #[.val (.int p1), .val (.int p2), .val (.int p3), .val (.int p4), .val (.int p5), .val (.int p6), .unset, .unset, .unset, .unset, .unset, .unset] []))
  obtain ⟨gr, e_gr, b_gr⟩ : ∃ z : Int32, z = (if p3 &&& 1 = 0 then (0 : Int32) else 1) ∧ (z = 0 ∨ z = 1) := ⟨_, rfl, by split <;> simp⟩
  refine OwnDone.go (A := (T.setTop (mkF m 3 #[.val (.int p1), .val (.int p2), .val (.int p3), .val (.int p4), .val (.int p5), .val (.int p6), .unset, .unset, .unset, .unset, .unset, .unset] [(.int (p3 &&& (1 : Int32)))]))) (fun tQ kQ => ?_) ?_
  · refine XS.iloadN P.here hx rfl (hb hby at_0) rfl ?_
    show Steps p.tables e below (T.setTop (mkF m 1 #[.val (.int p1), .val (.int p2), .val (.int p3), .val (.int p4), .val (.int p5), .val (.int p6), .unset, .unset, .unset, .unset, .unset, .unset] [(.int p3)])) _
    refine XS.iconst P.here hx rfl (hb hby at_1) ?_
    show Steps p.tables e below (T.setTop (mkF m 2 #[.val (.int p1), .val (.int p2), .val (.int p3), .val (.int p4), .val (.int p5), .val (.int p6), .unset, .unset, .unset, .unset, .unset, .unset] [(.int (1 : Int32)), (.int p3)])) _
    refine XS.iand P.here hx rfl (hb hby at_2) rfl ?_
    show Steps p.tables e below (T.setTop (mkF m 3 #[.val (.int p1), .val (.int p2), .val (.int p3), .val (.int p4), .val (.int p5), .val (.int p6), .unset, .unset, .unset, .unset, .unset, .unset] [(.int (p3 &&& (1 : Int32)))])) _
    exact kQ
  show OwnDone p e below _ (T.setTop (mkF m 3 #[.val (.int p1), .val (.int p2), .val (.int p3), .val (.int p4), .val (.int p5), .val (.int p6), .unset, .unset, .unset, .unset, .unset, .unset] [(.int (p3 &&& (1 : Int32)))]))
  suffices K1 : OwnDone p e below _ (T.setTop (mkF m 11 #[.val (.int p1), .val (.int p2), .val (.int p3), .val (.int p4), .val (.int p5), .val (.int p6), .unset, .unset, .unset, .unset, .unset, .unset] [(.int gr)])) from by
    by_cases hc3 : (p3 &&& (1 : Int32)) = (0 : Int32)
    · refine OwnDone.go (A := (T.setTop (mkF m 10 #[.val (.int p1), .val (.int p2), .val (.int p3), .val (.int p4), .val (.int p5), .val (.int p6), .unset, .unset, .unset, .unset, .unset, .unset] []))) (fun tQ kQ => XS.ifYes P.here hx rfl (pc0 := 3) (pc' := 10) rfl (hb hby at_3) rfl (XT.i0_eq_t hc3) (by decide) (by decide) kQ) ?_
      show OwnDone p e below _ (T.setTop (mkF m 10 #[.val (.int p1), .val (.int p2), .val (.int p3), .val (.int p4), .val (.int p5), .val (.int p6), .unset, .unset, .unset, .unset, .unset, .unset] []))
      refine OwnDone.go (A := (T.setTop (mkF m 11 #[.val (.int p1), .val (.int p2), .val (.int p3), .val (.int p4), .val (.int p5), .val (.int p6), .unset, .unset, .unset, .unset, .unset, .unset] [(.int (0 : Int32))]))) (fun tQ kQ => ?_) ?_
      · refine XS.iconst P.here hx rfl (hb hby at_10) ?_
        show Steps p.tables e below (T.setTop (mkF m 11 #[.val (.int p1), .val (.int p2), .val (.int p3), .val (.int p4), .val (.int p5), .val (.int p6), .unset, .unset, .unset, .unset, .unset, .unset] [(.int (0 : Int32))])) _
        exact kQ
      show OwnDone p e below _ (T.setTop (mkF m 11 #[.val (.int p1), .val (.int p2), .val (.int p3), .val (.int p4), .val (.int p5), .val (.int p6), .unset, .unset, .unset, .unset, .unset, .unset] [(.int (0 : Int32))]))
      have q_ : ((.int gr) : Value) = (.int (0 : Int32)) := by rw [e_gr]; simp only [hc3, if_true, if_false]
      rw [q_] at K1
      exact K1
    · refine OwnDone.go (A := (T.setTop (mkF m 6 #[.val (.int p1), .val (.int p2), .val (.int p3), .val (.int p4), .val (.int p5), .val (.int p6), .unset, .unset, .unset, .unset, .unset, .unset] []))) (fun tQ kQ => XS.ifNo P.here hx rfl (hb hby at_3) rfl (XT.i0_eq_f hc3) kQ) ?_
      show OwnDone p e below _ (T.setTop (mkF m 6 #[.val (.int p1), .val (.int p2), .val (.int p3), .val (.int p4), .val (.int p5), .val (.int p6), .unset, .unset, .unset, .unset, .unset, .unset] []))
      refine OwnDone.go (A := (T.setTop (mkF m 11 #[.val (.int p1), .val (.int p2), .val (.int p3), .val (.int p4), .val (.int p5), .val (.int p6), .unset, .unset, .unset, .unset, .unset, .unset] [(.int (1 : Int32))]))) (fun tQ kQ => ?_) ?_
      · refine XS.iconst P.here hx rfl (hb hby at_6) ?_
        show Steps p.tables e below (T.setTop (mkF m 7 #[.val (.int p1), .val (.int p2), .val (.int p3), .val (.int p4), .val (.int p5), .val (.int p6), .unset, .unset, .unset, .unset, .unset, .unset] [(.int (1 : Int32))])) _
        refine XS.goto P.here hx rfl (pc0 := 7) (pc' := 11) rfl (hb hby at_7) (by decide) (by decide) ?_
        show Steps p.tables e below (T.setTop (mkF m 11 #[.val (.int p1), .val (.int p2), .val (.int p3), .val (.int p4), .val (.int p5), .val (.int p6), .unset, .unset, .unset, .unset, .unset, .unset] [(.int (1 : Int32))])) _
        exact kQ
      show OwnDone p e below _ (T.setTop (mkF m 11 #[.val (.int p1), .val (.int p2), .val (.int p3), .val (.int p4), .val (.int p5), .val (.int p6), .unset, .unset, .unset, .unset, .unset, .unset] [(.int (1 : Int32))]))
      have q_ : ((.int gr) : Value) = (.int (1 : Int32)) := by rw [e_gr]; simp only [hc3, if_true, if_false]
      rw [q_] at K1
      exact K1
  show OwnDone p e below _ (T.setTop (mkF m 11 #[.val (.int p1), .val (.int p2), .val (.int p3), .val (.int p4), .val (.int p5), .val (.int p6), .unset, .unset, .unset, .unset, .unset, .unset] [(.int gr)]))
  refine OwnDone.go (A := (T.setTop (mkF m 22 #[.val (.int p1), .val (.int p2), .val (.int p3), .val (.int p4), .val (.int p5), .val (.int p6), .val (.int gr), .unset, .unset, .unset, .unset, .unset] [(.int p6), (.int p5), (.int p4), (.int gr), (.int p2), (.int p1)]))) (fun tQ kQ => ?_) ?_
  · refine XS.istore P.here hx rfl (hb hby at_11) rfl (l' := #[.val (.int p1), .val (.int p2), .val (.int p3), .val (.int p4), .val (.int p5), .val (.int p6), .val (.int gr), .unset, .unset, .unset, .unset, .unset]) rfl ?_
    show Steps p.tables e below (T.setTop (mkF m 13 #[.val (.int p1), .val (.int p2), .val (.int p3), .val (.int p4), .val (.int p5), .val (.int p6), .val (.int gr), .unset, .unset, .unset, .unset, .unset] [])) _
    refine XS.iloadN P.here hx rfl (hb hby at_13) rfl ?_
    show Steps p.tables e below (T.setTop (mkF m 14 #[.val (.int p1), .val (.int p2), .val (.int p3), .val (.int p4), .val (.int p5), .val (.int p6), .val (.int gr), .unset, .unset, .unset, .unset, .unset] [(.int p1)])) _
    refine XS.iloadN P.here hx rfl (hb hby at_14) rfl ?_
    show Steps p.tables e below (T.setTop (mkF m 15 #[.val (.int p1), .val (.int p2), .val (.int p3), .val (.int p4), .val (.int p5), .val (.int p6), .val (.int gr), .unset, .unset, .unset, .unset, .unset] [(.int p2), (.int p1)])) _
    refine XS.iload P.here hx rfl (hb hby at_15) rfl ?_
    show Steps p.tables e below (T.setTop (mkF m 17 #[.val (.int p1), .val (.int p2), .val (.int p3), .val (.int p4), .val (.int p5), .val (.int p6), .val (.int gr), .unset, .unset, .unset, .unset, .unset] [(.int gr), (.int p2), (.int p1)])) _
    refine XS.iloadN P.here hx rfl (hb hby at_17) rfl ?_
    show Steps p.tables e below (T.setTop (mkF m 18 #[.val (.int p1), .val (.int p2), .val (.int p3), .val (.int p4), .val (.int p5), .val (.int p6), .val (.int gr), .unset, .unset, .unset, .unset, .unset] [(.int p4), (.int gr), (.int p2), (.int p1)])) _
    refine XS.iload P.here hx rfl (hb hby at_18) rfl ?_
    show Steps p.tables e below (T.setTop (mkF m 20 #[.val (.int p1), .val (.int p2), .val (.int p3), .val (.int p4), .val (.int p5), .val (.int p6), .val (.int gr), .unset, .unset, .unset, .unset, .unset] [(.int p5), (.int p4), (.int gr), (.int p2), (.int p1)])) _
    refine XS.iload P.here hx rfl (hb hby at_20) rfl ?_
    show Steps p.tables e below (T.setTop (mkF m 22 #[.val (.int p1), .val (.int p2), .val (.int p3), .val (.int p4), .val (.int p5), .val (.int p6), .val (.int gr), .unset, .unset, .unset, .unset, .unset] [(.int p6), (.int p5), (.int p4), (.int gr), (.int p2), (.int p1)])) _
    exact kQ
  show OwnDone p e below _ (T.setTop (mkF m 22 #[.val (.int p1), .val (.int p2), .val (.int p3), .val (.int p4), .val (.int p5), .val (.int p6), .val (.int gr), .unset, .unset, .unset, .unset, .unset] [(.int p6), (.int p5), (.int p4), (.int gr), (.int p2), (.int p1)]))
  refine own_callS (y := (⟨"com/example/bounded_array/boundedarray/regex/Node", "repetition", "(IIZIII)Lcom/example/bounded_array/boundedarray/regex/Node;"⟩ : MethodName)) C P (hw _ (List.mem_of_getElem? (i := 0) rfl)) (hw _ (List.mem_of_getElem? (i := 1) rfl)) (hw _ (List.mem_of_getElem? (i := 2) rfl)) (hw _ (List.mem_of_getElem? (i := 3) rfl)) (by decide) (rm2 l Z a0 hw p1 p2 gr p4 p5 p6 h0 P.old b_gr kd S0) (as := [(.int p1), (.int p2), (.int gr), (.int p4), (.int p5), (.int p6)]) (rest := []) pd_1 rfl rfl (wd := 0) rfl rfl at_22 all0 (by decide) (by decide) (by decide) (by decide) (fun T2 h2 v2 P2 K2 hQ2 => ?_)
  obtain ⟨a2, rfl, ge_a2, O2⟩ := hQ2
  show OwnDone p e below _ (T2.setTop (mkF m 25 #[.val (.int p1), .val (.int p2), .val (.int p3), .val (.int p4), .val (.int p5), .val (.int p6), .val (.int gr), .unset, .unset, .unset, .unset, .unset] [(.ref a2)]))
  refine OwnDone.go (A := (T2.setTop (mkF m 29 #[.val (.int p1), .val (.int p2), .val (.int p3), .val (.int p4), .val (.int p5), .val (.int p6), .val (.int gr), .val (.ref a2), .unset, .unset, .unset, .unset] [(.ref a2)]))) (fun tQ kQ => ?_) ?_
  · refine XS.astore P2.here hx rfl (hb hby at_25) rfl rfl (l' := #[.val (.int p1), .val (.int p2), .val (.int p3), .val (.int p4), .val (.int p5), .val (.int p6), .val (.int gr), .val (.ref a2), .unset, .unset, .unset, .unset]) rfl ?_
    show Steps p.tables e below (T2.setTop (mkF m 27 #[.val (.int p1), .val (.int p2), .val (.int p3), .val (.int p4), .val (.int p5), .val (.int p6), .val (.int gr), .val (.ref a2), .unset, .unset, .unset, .unset] [])) _
    refine XS.aload P2.here hx rfl (hb hby at_27) rfl rfl ?_
    show Steps p.tables e below (T2.setTop (mkF m 29 #[.val (.int p1), .val (.int p2), .val (.int p3), .val (.int p4), .val (.int p5), .val (.int p6), .val (.int gr), .val (.ref a2), .unset, .unset, .unset, .unset] [(.ref a2)])) _
    exact kQ
  show OwnDone p e below _ (T2.setTop (mkF m 29 #[.val (.int p1), .val (.int p2), .val (.int p3), .val (.int p4), .val (.int p5), .val (.int p6), .val (.int gr), .val (.ref a2), .unset, .unset, .unset, .unset] [(.ref a2)]))
  refine OwnDone.go (A := (T2.setTop (mkF m 34 #[.val (.int p1), .val (.int p2), .val (.int p3), .val (.int p4), .val (.int p5), .val (.int p6), .val (.int gr), .val (.ref a2), .unset, .unset, .unset, .unset] []))) (fun tQ kQ => XT.ifnonnullYes P2.here hx rfl (pc0 := 29) (pc' := 34) rfl (hb hby at_29) rfl (by decide) (by decide) kQ) ?_
  show OwnDone p e below _ (T2.setTop (mkF m 34 #[.val (.int p1), .val (.int p2), .val (.int p3), .val (.int p4), .val (.int p5), .val (.int p6), .val (.int gr), .val (.ref a2), .unset, .unset, .unset, .unset] []))
  refine OwnDone.go (A := (T2.setTop (mkF m 36 #[.val (.int p1), .val (.int p2), .val (.int p3), .val (.int p4), .val (.int p5), .val (.int p6), .val (.int gr), .val (.ref a2), .unset, .unset, .unset, .unset] [(.ref a2)]))) (fun tQ kQ => ?_) ?_
  · refine XS.aload P2.here hx rfl (hb hby at_34) rfl rfl ?_
    show Steps p.tables e below (T2.setTop (mkF m 36 #[.val (.int p1), .val (.int p2), .val (.int p3), .val (.int p4), .val (.int p5), .val (.int p6), .val (.int gr), .val (.ref a2), .unset, .unset, .unset, .unset] [(.ref a2)])) _
    exact kQ
  show OwnDone p e below _ (T2.setTop (mkF m 36 #[.val (.int p1), .val (.int p2), .val (.int p3), .val (.int p4), .val (.int p5), .val (.int p6), .val (.int gr), .val (.ref a2), .unset, .unset, .unset, .unset] [(.ref a2)]))
  refine own_getF C P2 (host := "") (Or.inl (hw _ (List.mem_of_getElem? (i := 43) rfl))) Via.refl (O2.2 0 _ _ _ _ rfl rfl) at_36 (fun T3 P3 => ?_)
  show OwnDone p e below _ (T3.setTop (mkF m 39 #[.val (.int p1), .val (.int p2), .val (.int p3), .val (.int p4), .val (.int p5), .val (.int p6), .val (.int gr), .val (.ref a2), .unset, .unset, .unset, .unset] [(.ref kd)]))
  refine own_getS C P3 (host := "") (Or.inl (hw _ (List.mem_of_getElem? (i := 44) rfl))) Via.refl S0 at_39 (fun T4 P4 => ?_)
  show OwnDone p e below _ (T4.setTop (mkF m 42 #[.val (.int p1), .val (.int p2), .val (.int p3), .val (.int p4), .val (.int p5), .val (.int p6), .val (.int gr), .val (.ref a2), .unset, .unset, .unset, .unset] [(.ref kd), (.ref kd)]))
  refine OwnDone.go (A := (T4.setTop (mkF m 45 #[.val (.int p1), .val (.int p2), .val (.int p3), .val (.int p4), .val (.int p5), .val (.int p6), .val (.int gr), .val (.ref a2), .unset, .unset, .unset, .unset] []))) (fun tQ kQ => XT.acmpNo P4.here hx rfl (hb hby at_42) rfl rfl rfl (XT.aa_ne_f rfl) kQ) ?_
  show OwnDone p e below _ (T4.setTop (mkF m 45 #[.val (.int p1), .val (.int p2), .val (.int p3), .val (.int p4), .val (.int p5), .val (.int p6), .val (.int gr), .val (.ref a2), .unset, .unset, .unset, .unset] []))
  refine OwnDone.go (A := (T4.setTop (mkF m 54 #[.val (.int p1), .val (.int p2), .val (.int p3), .val (.int p4), .val (.int p5), .val (.int p6), .val (.int gr), .val (.ref a2), .val (.int (1 : Int32)), .unset, .unset, .unset] [(.ref a2)]))) (fun tQ kQ => ?_) ?_
  · refine XS.iconst P4.here hx rfl (hb hby at_45) ?_
    show Steps p.tables e below (T4.setTop (mkF m 46 #[.val (.int p1), .val (.int p2), .val (.int p3), .val (.int p4), .val (.int p5), .val (.int p6), .val (.int gr), .val (.ref a2), .unset, .unset, .unset, .unset] [(.int (1 : Int32))])) _
    refine XS.goto P4.here hx rfl (pc0 := 46) (pc' := 50) rfl (hb hby at_46) (by decide) (by decide) ?_
    show Steps p.tables e below (T4.setTop (mkF m 50 #[.val (.int p1), .val (.int p2), .val (.int p3), .val (.int p4), .val (.int p5), .val (.int p6), .val (.int gr), .val (.ref a2), .unset, .unset, .unset, .unset] [(.int (1 : Int32))])) _
    refine XS.istore P4.here hx rfl (hb hby at_50) rfl (l' := #[.val (.int p1), .val (.int p2), .val (.int p3), .val (.int p4), .val (.int p5), .val (.int p6), .val (.int gr), .val (.ref a2), .val (.int (1 : Int32)), .unset, .unset, .unset]) rfl ?_
    show Steps p.tables e below (T4.setTop (mkF m 52 #[.val (.int p1), .val (.int p2), .val (.int p3), .val (.int p4), .val (.int p5), .val (.int p6), .val (.int gr), .val (.ref a2), .val (.int (1 : Int32)), .unset, .unset, .unset] [])) _
    refine XS.aload P4.here hx rfl (hb hby at_52) rfl rfl ?_
    show Steps p.tables e below (T4.setTop (mkF m 54 #[.val (.int p1), .val (.int p2), .val (.int p3), .val (.int p4), .val (.int p5), .val (.int p6), .val (.int gr), .val (.ref a2), .val (.int (1 : Int32)), .unset, .unset, .unset] [(.ref a2)])) _
    exact kQ
  show OwnDone p e below _ (T4.setTop (mkF m 54 #[.val (.int p1), .val (.int p2), .val (.int p3), .val (.int p4), .val (.int p5), .val (.int p6), .val (.int gr), .val (.ref a2), .val (.int (1 : Int32)), .unset, .unset, .unset] [(.ref a2)]))
  refine own_getF C P4 (host := "") (Or.inl (hw _ (List.mem_of_getElem? (i := 45) rfl))) Via.refl (O2.2 1 _ _ _ _ rfl rfl) at_54 (fun T5 P5 => ?_)
  show OwnDone p e below _ (T5.setTop (mkF m 57 #[.val (.int p1), .val (.int p2), .val (.int p3), .val (.int p4), .val (.int p5), .val (.int p6), .val (.int gr), .val (.ref a2), .val (.int (1 : Int32)), .unset, .unset, .unset] [(.int ((1 : Int32) + p6))]))
  refine OwnDone.go (A := (T5.setTop (mkF m 61 #[.val (.int p1), .val (.int p2), .val (.int p3), .val (.int p4), .val (.int p5), .val (.int p6), .val (.int gr), .val (.ref a2), .val (.int (1 : Int32)), .unset, .unset, .unset] [(.int (p6 + (1 : Int32))), (.int ((1 : Int32) + p6))]))) (fun tQ kQ => ?_) ?_
  · refine XS.iload P5.here hx rfl (hb hby at_57) rfl ?_
    show Steps p.tables e below (T5.setTop (mkF m 59 #[.val (.int p1), .val (.int p2), .val (.int p3), .val (.int p4), .val (.int p5), .val (.int p6), .val (.int gr), .val (.ref a2), .val (.int (1 : Int32)), .unset, .unset, .unset] [(.int p6), (.int ((1 : Int32) + p6))])) _
    refine XS.iconst P5.here hx rfl (hb hby at_59) ?_
    show Steps p.tables e below (T5.setTop (mkF m 60 #[.val (.int p1), .val (.int p2), .val (.int p3), .val (.int p4), .val (.int p5), .val (.int p6), .val (.int gr), .val (.ref a2), .val (.int (1 : Int32)), .unset, .unset, .unset] [(.int (1 : Int32)), (.int p6), (.int ((1 : Int32) + p6))])) _
    refine XS.iadd P5.here hx rfl (hb hby at_60) rfl ?_
    show Steps p.tables e below (T5.setTop (mkF m 61 #[.val (.int p1), .val (.int p2), .val (.int p3), .val (.int p4), .val (.int p5), .val (.int p6), .val (.int gr), .val (.ref a2), .val (.int (1 : Int32)), .unset, .unset, .unset] [(.int (p6 + (1 : Int32))), (.int ((1 : Int32) + p6))])) _
    exact kQ
  show OwnDone p e below _ (T5.setTop (mkF m 61 #[.val (.int p1), .val (.int p2), .val (.int p3), .val (.int p4), .val (.int p5), .val (.int p6), .val (.int gr), .val (.ref a2), .val (.int (1 : Int32)), .unset, .unset, .unset] [(.int (p6 + (1 : Int32))), (.int ((1 : Int32) + p6))]))
  refine OwnDone.go (A := (T5.setTop (mkF m 64 #[.val (.int p1), .val (.int p2), .val (.int p3), .val (.int p4), .val (.int p5), .val (.int p6), .val (.int gr), .val (.ref a2), .val (.int (1 : Int32)), .unset, .unset, .unset] []))) (fun tQ kQ => XS.icmpNo P5.here hx rfl (hb hby at_61) rfl (XT.ii_ne_f (Int32.add_comm _ _)) kQ) ?_
  show OwnDone p e below _ (T5.setTop (mkF m 64 #[.val (.int p1), .val (.int p2), .val (.int p3), .val (.int p4), .val (.int p5), .val (.int p6), .val (.int gr), .val (.ref a2), .val (.int (1 : Int32)), .unset, .unset, .unset] []))
  refine OwnDone.go (A := (T5.setTop (mkF m 73 #[.val (.int p1), .val (.int p2), .val (.int p3), .val (.int p4), .val (.int p5), .val (.int p6), .val (.int gr), .val (.ref a2), .val (.int (1 : Int32)), .val (.int (1 : Int32)), .unset, .unset] [(.ref a2)]))) (fun tQ kQ => ?_) ?_
  · refine XS.iconst P5.here hx rfl (hb hby at_64) ?_
    show Steps p.tables e below (T5.setTop (mkF m 65 #[.val (.int p1), .val (.int p2), .val (.int p3), .val (.int p4), .val (.int p5), .val (.int p6), .val (.int gr), .val (.ref a2), .val (.int (1 : Int32)), .unset, .unset, .unset] [(.int (1 : Int32))])) _
    refine XS.goto P5.here hx rfl (pc0 := 65) (pc' := 69) rfl (hb hby at_65) (by decide) (by decide) ?_
    show Steps p.tables e below (T5.setTop (mkF m 69 #[.val (.int p1), .val (.int p2), .val (.int p3), .val (.int p4), .val (.int p5), .val (.int p6), .val (.int gr), .val (.ref a2), .val (.int (1 : Int32)), .unset, .unset, .unset] [(.int (1 : Int32))])) _
    refine XS.istore P5.here hx rfl (hb hby at_69) rfl (l' := #[.val (.int p1), .val (.int p2), .val (.int p3), .val (.int p4), .val (.int p5), .val (.int p6), .val (.int gr), .val (.ref a2), .val (.int (1 : Int32)), .val (.int (1 : Int32)), .unset, .unset]) rfl ?_
    show Steps p.tables e below (T5.setTop (mkF m 71 #[.val (.int p1), .val (.int p2), .val (.int p3), .val (.int p4), .val (.int p5), .val (.int p6), .val (.int gr), .val (.ref a2), .val (.int (1 : Int32)), .val (.int (1 : Int32)), .unset, .unset] [])) _
    refine XS.aload P5.here hx rfl (hb hby at_71) rfl rfl ?_
    show Steps p.tables e below (T5.setTop (mkF m 73 #[.val (.int p1), .val (.int p2), .val (.int p3), .val (.int p4), .val (.int p5), .val (.int p6), .val (.int gr), .val (.ref a2), .val (.int (1 : Int32)), .val (.int (1 : Int32)), .unset, .unset] [(.ref a2)])) _
    exact kQ
  show OwnDone p e below _ (T5.setTop (mkF m 73 #[.val (.int p1), .val (.int p2), .val (.int p3), .val (.int p4), .val (.int p5), .val (.int p6), .val (.int gr), .val (.ref a2), .val (.int (1 : Int32)), .val (.int (1 : Int32)), .unset, .unset] [(.ref a2)]))
  refine own_getF C P5 (host := "") (Or.inl (hw _ (List.mem_of_getElem? (i := 46) rfl))) Via.refl (O2.2 7 _ _ _ _ rfl rfl) at_73 (fun T6 P6 => ?_)
  show OwnDone p e below _ (T6.setTop (mkF m 76 #[.val (.int p1), .val (.int p2), .val (.int p3), .val (.int p4), .val (.int p5), .val (.int p6), .val (.int gr), .val (.ref a2), .val (.int (1 : Int32)), .val (.int (1 : Int32)), .unset, .unset] [(.int p1)]))
  refine OwnDone.go (A := (T6.setTop (mkF m 77 #[.val (.int p1), .val (.int p2), .val (.int p3), .val (.int p4), .val (.int p5), .val (.int p6), .val (.int gr), .val (.ref a2), .val (.int (1 : Int32)), .val (.int (1 : Int32)), .unset, .unset] [(.int p1), (.int p1)]))) (fun tQ kQ => ?_) ?_
  · refine XS.iloadN P6.here hx rfl (hb hby at_76) rfl ?_
    show Steps p.tables e below (T6.setTop (mkF m 77 #[.val (.int p1), .val (.int p2), .val (.int p3), .val (.int p4), .val (.int p5), .val (.int p6), .val (.int gr), .val (.ref a2), .val (.int (1 : Int32)), .val (.int (1 : Int32)), .unset, .unset] [(.int p1), (.int p1)])) _
    exact kQ
  show OwnDone p e below _ (T6.setTop (mkF m 77 #[.val (.int p1), .val (.int p2), .val (.int p3), .val (.int p4), .val (.int p5), .val (.int p6), .val (.int gr), .val (.ref a2), .val (.int (1 : Int32)), .val (.int (1 : Int32)), .unset, .unset] [(.int p1), (.int p1)]))
  refine OwnDone.go (A := (T6.setTop (mkF m 80 #[.val (.int p1), .val (.int p2), .val (.int p3), .val (.int p4), .val (.int p5), .val (.int p6), .val (.int gr), .val (.ref a2), .val (.int (1 : Int32)), .val (.int (1 : Int32)), .unset, .unset] []))) (fun tQ kQ => XS.icmpNo P6.here hx rfl (hb hby at_77) rfl (XT.ii_ne_f rfl) kQ) ?_
  show OwnDone p e below _ (T6.setTop (mkF m 80 #[.val (.int p1), .val (.int p2), .val (.int p3), .val (.int p4), .val (.int p5), .val (.int p6), .val (.int gr), .val (.ref a2), .val (.int (1 : Int32)), .val (.int (1 : Int32)), .unset, .unset] []))
  refine OwnDone.go (A := (T6.setTop (mkF m 82 #[.val (.int p1), .val (.int p2), .val (.int p3), .val (.int p4), .val (.int p5), .val (.int p6), .val (.int gr), .val (.ref a2), .val (.int (1 : Int32)), .val (.int (1 : Int32)), .unset, .unset] [(.ref a2)]))) (fun tQ kQ => ?_) ?_
  · refine XS.aload P6.here hx rfl (hb hby at_80) rfl rfl ?_
    show Steps p.tables e below (T6.setTop (mkF m 82 #[.val (.int p1), .val (.int p2), .val (.int p3), .val (.int p4), .val (.int p5), .val (.int p6), .val (.int gr), .val (.ref a2), .val (.int (1 : Int32)), .val (.int (1 : Int32)), .unset, .unset] [(.ref a2)])) _
    exact kQ
  show OwnDone p e below _ (T6.setTop (mkF m 82 #[.val (.int p1), .val (.int p2), .val (.int p3), .val (.int p4), .val (.int p5), .val (.int p6), .val (.int gr), .val (.ref a2), .val (.int (1 : Int32)), .val (.int (1 : Int32)), .unset, .unset] [(.ref a2)]))
  refine own_getF C P6 (host := "") (Or.inl (hw _ (List.mem_of_getElem? (i := 47) rfl))) Via.refl (O2.2 8 _ _ _ _ rfl rfl) at_82 (fun T7 P7 => ?_)
  show OwnDone p e below _ (T7.setTop (mkF m 85 #[.val (.int p1), .val (.int p2), .val (.int p3), .val (.int p4), .val (.int p5), .val (.int p6), .val (.int gr), .val (.ref a2), .val (.int (1 : Int32)), .val (.int (1 : Int32)), .unset, .unset] [(.int p2)]))
  refine OwnDone.go (A := (T7.setTop (mkF m 86 #[.val (.int p1), .val (.int p2), .val (.int p3), .val (.int p4), .val (.int p5), .val (.int p6), .val (.int gr), .val (.ref a2), .val (.int (1 : Int32)), .val (.int (1 : Int32)), .unset, .unset] [(.int p2), (.int p2)]))) (fun tQ kQ => ?_) ?_
  · refine XS.iloadN P7.here hx rfl (hb hby at_85) rfl ?_
    show Steps p.tables e below (T7.setTop (mkF m 86 #[.val (.int p1), .val (.int p2), .val (.int p3), .val (.int p4), .val (.int p5), .val (.int p6), .val (.int gr), .val (.ref a2), .val (.int (1 : Int32)), .val (.int (1 : Int32)), .unset, .unset] [(.int p2), (.int p2)])) _
    exact kQ
  show OwnDone p e below _ (T7.setTop (mkF m 86 #[.val (.int p1), .val (.int p2), .val (.int p3), .val (.int p4), .val (.int p5), .val (.int p6), .val (.int gr), .val (.ref a2), .val (.int (1 : Int32)), .val (.int (1 : Int32)), .unset, .unset] [(.int p2), (.int p2)]))
  refine OwnDone.go (A := (T7.setTop (mkF m 89 #[.val (.int p1), .val (.int p2), .val (.int p3), .val (.int p4), .val (.int p5), .val (.int p6), .val (.int gr), .val (.ref a2), .val (.int (1 : Int32)), .val (.int (1 : Int32)), .unset, .unset] []))) (fun tQ kQ => XS.icmpNo P7.here hx rfl (hb hby at_86) rfl (XT.ii_ne_f rfl) kQ) ?_
  show OwnDone p e below _ (T7.setTop (mkF m 89 #[.val (.int p1), .val (.int p2), .val (.int p3), .val (.int p4), .val (.int p5), .val (.int p6), .val (.int gr), .val (.ref a2), .val (.int (1 : Int32)), .val (.int (1 : Int32)), .unset, .unset] []))
  refine OwnDone.go (A := (T7.setTop (mkF m 91 #[.val (.int p1), .val (.int p2), .val (.int p3), .val (.int p4), .val (.int p5), .val (.int p6), .val (.int gr), .val (.ref a2), .val (.int (1 : Int32)), .val (.int (1 : Int32)), .unset, .unset] [(.ref a2)]))) (fun tQ kQ => ?_) ?_
  · refine XS.aload P7.here hx rfl (hb hby at_89) rfl rfl ?_
    show Steps p.tables e below (T7.setTop (mkF m 91 #[.val (.int p1), .val (.int p2), .val (.int p3), .val (.int p4), .val (.int p5), .val (.int p6), .val (.int gr), .val (.ref a2), .val (.int (1 : Int32)), .val (.int (1 : Int32)), .unset, .unset] [(.ref a2)])) _
    exact kQ
  show OwnDone p e below _ (T7.setTop (mkF m 91 #[.val (.int p1), .val (.int p2), .val (.int p3), .val (.int p4), .val (.int p5), .val (.int p6), .val (.int gr), .val (.ref a2), .val (.int (1 : Int32)), .val (.int (1 : Int32)), .unset, .unset] [(.ref a2)]))
  refine own_getF C P7 (host := "") (Or.inl (hw _ (List.mem_of_getElem? (i := 48) rfl))) Via.refl (O2.2 9 _ _ _ _ rfl rfl) at_91 (fun T8 P8 => ?_)
  show OwnDone p e below _ (T8.setTop (mkF m 94 #[.val (.int p1), .val (.int p2), .val (.int p3), .val (.int p4), .val (.int p5), .val (.int p6), .val (.int gr), .val (.ref a2), .val (.int (1 : Int32)), .val (.int (1 : Int32)), .unset, .unset] [(.int gr)]))
  refine OwnDone.go (A := (T8.setTop (mkF m 96 #[.val (.int p1), .val (.int p2), .val (.int p3), .val (.int p4), .val (.int p5), .val (.int p6), .val (.int gr), .val (.ref a2), .val (.int (1 : Int32)), .val (.int (1 : Int32)), .unset, .unset] [(.int gr), (.int gr)]))) (fun tQ kQ => ?_) ?_
  · refine XS.iload P8.here hx rfl (hb hby at_94) rfl ?_
    show Steps p.tables e below (T8.setTop (mkF m 96 #[.val (.int p1), .val (.int p2), .val (.int p3), .val (.int p4), .val (.int p5), .val (.int p6), .val (.int gr), .val (.ref a2), .val (.int (1 : Int32)), .val (.int (1 : Int32)), .unset, .unset] [(.int gr), (.int gr)])) _
    exact kQ
  show OwnDone p e below _ (T8.setTop (mkF m 96 #[.val (.int p1), .val (.int p2), .val (.int p3), .val (.int p4), .val (.int p5), .val (.int p6), .val (.int gr), .val (.ref a2), .val (.int (1 : Int32)), .val (.int (1 : Int32)), .unset, .unset] [(.int gr), (.int gr)]))
  refine OwnDone.go (A := (T8.setTop (mkF m 99 #[.val (.int p1), .val (.int p2), .val (.int p3), .val (.int p4), .val (.int p5), .val (.int p6), .val (.int gr), .val (.ref a2), .val (.int (1 : Int32)), .val (.int (1 : Int32)), .unset, .unset] []))) (fun tQ kQ => XS.icmpNo P8.here hx rfl (hb hby at_96) rfl (XT.ii_ne_f rfl) kQ) ?_
  show OwnDone p e below _ (T8.setTop (mkF m 99 #[.val (.int p1), .val (.int p2), .val (.int p3), .val (.int p4), .val (.int p5), .val (.int p6), .val (.int gr), .val (.ref a2), .val (.int (1 : Int32)), .val (.int (1 : Int32)), .unset, .unset] []))
  refine OwnDone.go (A := (T8.setTop (mkF m 101 #[.val (.int p1), .val (.int p2), .val (.int p3), .val (.int p4), .val (.int p5), .val (.int p6), .val (.int gr), .val (.ref a2), .val (.int (1 : Int32)), .val (.int (1 : Int32)), .unset, .unset] [(.ref a2)]))) (fun tQ kQ => ?_) ?_
  · refine XS.aload P8.here hx rfl (hb hby at_99) rfl rfl ?_
    show Steps p.tables e below (T8.setTop (mkF m 101 #[.val (.int p1), .val (.int p2), .val (.int p3), .val (.int p4), .val (.int p5), .val (.int p6), .val (.int gr), .val (.ref a2), .val (.int (1 : Int32)), .val (.int (1 : Int32)), .unset, .unset] [(.ref a2)])) _
    exact kQ
  show OwnDone p e below _ (T8.setTop (mkF m 101 #[.val (.int p1), .val (.int p2), .val (.int p3), .val (.int p4), .val (.int p5), .val (.int p6), .val (.int gr), .val (.ref a2), .val (.int (1 : Int32)), .val (.int (1 : Int32)), .unset, .unset] [(.ref a2)]))
  refine own_getF C P8 (host := "") (Or.inl (hw _ (List.mem_of_getElem? (i := 49) rfl))) Via.refl (O2.2 10 _ _ _ _ rfl rfl) at_101 (fun T9 P9 => ?_)
  show OwnDone p e below _ (T9.setTop (mkF m 104 #[.val (.int p1), .val (.int p2), .val (.int p3), .val (.int p4), .val (.int p5), .val (.int p6), .val (.int gr), .val (.ref a2), .val (.int (1 : Int32)), .val (.int (1 : Int32)), .unset, .unset] [(.int p4)]))
  refine OwnDone.go (A := (T9.setTop (mkF m 105 #[.val (.int p1), .val (.int p2), .val (.int p3), .val (.int p4), .val (.int p5), .val (.int p6), .val (.int gr), .val (.ref a2), .val (.int (1 : Int32)), .val (.int (1 : Int32)), .unset, .unset] [(.int p4), (.int p4)]))) (fun tQ kQ => ?_) ?_
  · refine XS.iloadN P9.here hx rfl (hb hby at_104) rfl ?_
    show Steps p.tables e below (T9.setTop (mkF m 105 #[.val (.int p1), .val (.int p2), .val (.int p3), .val (.int p4), .val (.int p5), .val (.int p6), .val (.int gr), .val (.ref a2), .val (.int (1 : Int32)), .val (.int (1 : Int32)), .unset, .unset] [(.int p4), (.int p4)])) _
    exact kQ
  show OwnDone p e below _ (T9.setTop (mkF m 105 #[.val (.int p1), .val (.int p2), .val (.int p3), .val (.int p4), .val (.int p5), .val (.int p6), .val (.int gr), .val (.ref a2), .val (.int (1 : Int32)), .val (.int (1 : Int32)), .unset, .unset] [(.int p4), (.int p4)]))
  refine OwnDone.go (A := (T9.setTop (mkF m 108 #[.val (.int p1), .val (.int p2), .val (.int p3), .val (.int p4), .val (.int p5), .val (.int p6), .val (.int gr), .val (.ref a2), .val (.int (1 : Int32)), .val (.int (1 : Int32)), .unset, .unset] []))) (fun tQ kQ => XS.icmpNo P9.here hx rfl (hb hby at_105) rfl (XT.ii_ne_f rfl) kQ) ?_
  show OwnDone p e below _ (T9.setTop (mkF m 108 #[.val (.int p1), .val (.int p2), .val (.int p3), .val (.int p4), .val (.int p5), .val (.int p6), .val (.int gr), .val (.ref a2), .val (.int (1 : Int32)), .val (.int (1 : Int32)), .unset, .unset] []))
  refine OwnDone.go (A := (T9.setTop (mkF m 110 #[.val (.int p1), .val (.int p2), .val (.int p3), .val (.int p4), .val (.int p5), .val (.int p6), .val (.int gr), .val (.ref a2), .val (.int (1 : Int32)), .val (.int (1 : Int32)), .unset, .unset] [(.ref a2)]))) (fun tQ kQ => ?_) ?_
  · refine XS.aload P9.here hx rfl (hb hby at_108) rfl rfl ?_
    show Steps p.tables e below (T9.setTop (mkF m 110 #[.val (.int p1), .val (.int p2), .val (.int p3), .val (.int p4), .val (.int p5), .val (.int p6), .val (.int gr), .val (.ref a2), .val (.int (1 : Int32)), .val (.int (1 : Int32)), .unset, .unset] [(.ref a2)])) _
    exact kQ
  show OwnDone p e below _ (T9.setTop (mkF m 110 #[.val (.int p1), .val (.int p2), .val (.int p3), .val (.int p4), .val (.int p5), .val (.int p6), .val (.int gr), .val (.ref a2), .val (.int (1 : Int32)), .val (.int (1 : Int32)), .unset, .unset] [(.ref a2)]))
  refine own_getF C P9 (host := "") (Or.inl (hw _ (List.mem_of_getElem? (i := 50) rfl))) Via.refl (O2.2 11 _ _ _ _ rfl rfl) at_110 (fun T10 P10 => ?_)
  show OwnDone p e below _ (T10.setTop (mkF m 113 #[.val (.int p1), .val (.int p2), .val (.int p3), .val (.int p4), .val (.int p5), .val (.int p6), .val (.int gr), .val (.ref a2), .val (.int (1 : Int32)), .val (.int (1 : Int32)), .unset, .unset] [(.int p5)]))
  refine OwnDone.go (A := (T10.setTop (mkF m 115 #[.val (.int p1), .val (.int p2), .val (.int p3), .val (.int p4), .val (.int p5), .val (.int p6), .val (.int gr), .val (.ref a2), .val (.int (1 : Int32)), .val (.int (1 : Int32)), .unset, .unset] [(.int p5), (.int p5)]))) (fun tQ kQ => ?_) ?_
  · refine XS.iload P10.here hx rfl (hb hby at_113) rfl ?_
    show Steps p.tables e below (T10.setTop (mkF m 115 #[.val (.int p1), .val (.int p2), .val (.int p3), .val (.int p4), .val (.int p5), .val (.int p6), .val (.int gr), .val (.ref a2), .val (.int (1 : Int32)), .val (.int (1 : Int32)), .unset, .unset] [(.int p5), (.int p5)])) _
    exact kQ
  show OwnDone p e below _ (T10.setTop (mkF m 115 #[.val (.int p1), .val (.int p2), .val (.int p3), .val (.int p4), .val (.int p5), .val (.int p6), .val (.int gr), .val (.ref a2), .val (.int (1 : Int32)), .val (.int (1 : Int32)), .unset, .unset] [(.int p5), (.int p5)]))
  refine OwnDone.go (A := (T10.setTop (mkF m 118 #[.val (.int p1), .val (.int p2), .val (.int p3), .val (.int p4), .val (.int p5), .val (.int p6), .val (.int gr), .val (.ref a2), .val (.int (1 : Int32)), .val (.int (1 : Int32)), .unset, .unset] []))) (fun tQ kQ => XS.icmpNo P10.here hx rfl (hb hby at_115) rfl (XT.ii_ne_f rfl) kQ) ?_
  show OwnDone p e below _ (T10.setTop (mkF m 118 #[.val (.int p1), .val (.int p2), .val (.int p3), .val (.int p4), .val (.int p5), .val (.int p6), .val (.int gr), .val (.ref a2), .val (.int (1 : Int32)), .val (.int (1 : Int32)), .unset, .unset] []))
  refine OwnDone.go (A := (T10.setTop (mkF m 127 #[.val (.int p1), .val (.int p2), .val (.int p3), .val (.int p4), .val (.int p5), .val (.int p6), .val (.int gr), .val (.ref a2), .val (.int (1 : Int32)), .val (.int (1 : Int32)), .val (.int (1 : Int32)), .unset] [(.ref a2)]))) (fun tQ kQ => ?_) ?_
  · refine XS.iconst P10.here hx rfl (hb hby at_118) ?_
    show Steps p.tables e below (T10.setTop (mkF m 119 #[.val (.int p1), .val (.int p2), .val (.int p3), .val (.int p4), .val (.int p5), .val (.int p6), .val (.int gr), .val (.ref a2), .val (.int (1 : Int32)), .val (.int (1 : Int32)), .unset, .unset] [(.int (1 : Int32))])) _
    refine XS.goto P10.here hx rfl (pc0 := 119) (pc' := 123) rfl (hb hby at_119) (by decide) (by decide) ?_
    show Steps p.tables e below (T10.setTop (mkF m 123 #[.val (.int p1), .val (.int p2), .val (.int p3), .val (.int p4), .val (.int p5), .val (.int p6), .val (.int gr), .val (.ref a2), .val (.int (1 : Int32)), .val (.int (1 : Int32)), .unset, .unset] [(.int (1 : Int32))])) _
    refine XS.istore P10.here hx rfl (hb hby at_123) rfl (l' := #[.val (.int p1), .val (.int p2), .val (.int p3), .val (.int p4), .val (.int p5), .val (.int p6), .val (.int gr), .val (.ref a2), .val (.int (1 : Int32)), .val (.int (1 : Int32)), .val (.int (1 : Int32)), .unset]) rfl ?_
    show Steps p.tables e below (T10.setTop (mkF m 125 #[.val (.int p1), .val (.int p2), .val (.int p3), .val (.int p4), .val (.int p5), .val (.int p6), .val (.int gr), .val (.ref a2), .val (.int (1 : Int32)), .val (.int (1 : Int32)), .val (.int (1 : Int32)), .unset] [])) _
    refine XS.aload P10.here hx rfl (hb hby at_125) rfl rfl ?_
    show Steps p.tables e below (T10.setTop (mkF m 127 #[.val (.int p1), .val (.int p2), .val (.int p3), .val (.int p4), .val (.int p5), .val (.int p6), .val (.int gr), .val (.ref a2), .val (.int (1 : Int32)), .val (.int (1 : Int32)), .val (.int (1 : Int32)), .unset] [(.ref a2)])) _
    exact kQ
  show OwnDone p e below _ (T10.setTop (mkF m 127 #[.val (.int p1), .val (.int p2), .val (.int p3), .val (.int p4), .val (.int p5), .val (.int p6), .val (.int gr), .val (.ref a2), .val (.int (1 : Int32)), .val (.int (1 : Int32)), .val (.int (1 : Int32)), .unset] [(.ref a2)]))
  refine own_getF C P10 (host := "") (Or.inl (hw _ (List.mem_of_getElem? (i := 51) rfl))) Via.refl (O2.2 2 _ _ _ _ rfl rfl) at_127 (fun T11 P11 => ?_)
  show OwnDone p e below _ (T11.setTop (mkF m 130 #[.val (.int p1), .val (.int p2), .val (.int p3), .val (.int p4), .val (.int p5), .val (.int p6), .val (.int gr), .val (.ref a2), .val (.int (1 : Int32)), .val (.int (1 : Int32)), .val (.int (1 : Int32)), .unset] [.null]))
  refine OwnDone.go (A := (T11.setTop (mkF m 133 #[.val (.int p1), .val (.int p2), .val (.int p3), .val (.int p4), .val (.int p5), .val (.int p6), .val (.int gr), .val (.ref a2), .val (.int (1 : Int32)), .val (.int (1 : Int32)), .val (.int (1 : Int32)), .unset] []))) (fun tQ kQ => XT.ifnonnullNo P11.here hx rfl (hb hby at_130) rfl kQ) ?_
  show OwnDone p e below _ (T11.setTop (mkF m 133 #[.val (.int p1), .val (.int p2), .val (.int p3), .val (.int p4), .val (.int p5), .val (.int p6), .val (.int gr), .val (.ref a2), .val (.int (1 : Int32)), .val (.int (1 : Int32)), .val (.int (1 : Int32)), .unset] []))
  refine OwnDone.go (A := (T11.setTop (mkF m 135 #[.val (.int p1), .val (.int p2), .val (.int p3), .val (.int p4), .val (.int p5), .val (.int p6), .val (.int gr), .val (.ref a2), .val (.int (1 : Int32)), .val (.int (1 : Int32)), .val (.int (1 : Int32)), .unset] [(.ref a2)]))) (fun tQ kQ => ?_) ?_
  · refine XS.aload P11.here hx rfl (hb hby at_133) rfl rfl ?_
    show Steps p.tables e below (T11.setTop (mkF m 135 #[.val (.int p1), .val (.int p2), .val (.int p3), .val (.int p4), .val (.int p5), .val (.int p6), .val (.int gr), .val (.ref a2), .val (.int (1 : Int32)), .val (.int (1 : Int32)), .val (.int (1 : Int32)), .unset] [(.ref a2)])) _
    exact kQ
  show OwnDone p e below _ (T11.setTop (mkF m 135 #[.val (.int p1), .val (.int p2), .val (.int p3), .val (.int p4), .val (.int p5), .val (.int p6), .val (.int gr), .val (.ref a2), .val (.int (1 : Int32)), .val (.int (1 : Int32)), .val (.int (1 : Int32)), .unset] [(.ref a2)]))
  refine own_getF C P11 (host := "") (Or.inl (hw _ (List.mem_of_getElem? (i := 52) rfl))) Via.refl (O2.2 3 _ _ _ _ rfl rfl) at_135 (fun T12 P12 => ?_)
  show OwnDone p e below _ (T12.setTop (mkF m 138 #[.val (.int p1), .val (.int p2), .val (.int p3), .val (.int p4), .val (.int p5), .val (.int p6), .val (.int gr), .val (.ref a2), .val (.int (1 : Int32)), .val (.int (1 : Int32)), .val (.int (1 : Int32)), .unset] [.null]))
  refine OwnDone.go (A := (T12.setTop (mkF m 141 #[.val (.int p1), .val (.int p2), .val (.int p3), .val (.int p4), .val (.int p5), .val (.int p6), .val (.int gr), .val (.ref a2), .val (.int (1 : Int32)), .val (.int (1 : Int32)), .val (.int (1 : Int32)), .unset] []))) (fun tQ kQ => XT.ifnonnullNo P12.here hx rfl (hb hby at_138) rfl kQ) ?_
  show OwnDone p e below _ (T12.setTop (mkF m 141 #[.val (.int p1), .val (.int p2), .val (.int p3), .val (.int p4), .val (.int p5), .val (.int p6), .val (.int gr), .val (.ref a2), .val (.int (1 : Int32)), .val (.int (1 : Int32)), .val (.int (1 : Int32)), .unset] []))
  refine OwnDone.go (A := (T12.setTop (mkF m 143 #[.val (.int p1), .val (.int p2), .val (.int p3), .val (.int p4), .val (.int p5), .val (.int p6), .val (.int gr), .val (.ref a2), .val (.int (1 : Int32)), .val (.int (1 : Int32)), .val (.int (1 : Int32)), .unset] [(.ref a2)]))) (fun tQ kQ => ?_) ?_
  · refine XS.aload P12.here hx rfl (hb hby at_141) rfl rfl ?_
    show Steps p.tables e below (T12.setTop (mkF m 143 #[.val (.int p1), .val (.int p2), .val (.int p3), .val (.int p4), .val (.int p5), .val (.int p6), .val (.int gr), .val (.ref a2), .val (.int (1 : Int32)), .val (.int (1 : Int32)), .val (.int (1 : Int32)), .unset] [(.ref a2)])) _
    exact kQ
  show OwnDone p e below _ (T12.setTop (mkF m 143 #[.val (.int p1), .val (.int p2), .val (.int p3), .val (.int p4), .val (.int p5), .val (.int p6), .val (.int gr), .val (.ref a2), .val (.int (1 : Int32)), .val (.int (1 : Int32)), .val (.int (1 : Int32)), .unset] [(.ref a2)]))
  refine own_getF C P12 (host := "") (Or.inl (hw _ (List.mem_of_getElem? (i := 53) rfl))) Via.refl (O2.2 4 _ _ _ _ rfl rfl) at_143 (fun T13 P13 => ?_)
  show OwnDone p e below _ (T13.setTop (mkF m 146 #[.val (.int p1), .val (.int p2), .val (.int p3), .val (.int p4), .val (.int p5), .val (.int p6), .val (.int gr), .val (.ref a2), .val (.int (1 : Int32)), .val (.int (1 : Int32)), .val (.int (1 : Int32)), .unset] [(.int (0 : Int32))]))
  refine OwnDone.go (A := (T13.setTop (mkF m 149 #[.val (.int p1), .val (.int p2), .val (.int p3), .val (.int p4), .val (.int p5), .val (.int p6), .val (.int gr), .val (.ref a2), .val (.int (1 : Int32)), .val (.int (1 : Int32)), .val (.int (1 : Int32)), .unset] []))) (fun tQ kQ => XS.ifNo P13.here hx rfl (hb hby at_146) rfl (XT.i0_ne_f (by decide)) kQ) ?_
  show OwnDone p e below _ (T13.setTop (mkF m 149 #[.val (.int p1), .val (.int p2), .val (.int p3), .val (.int p4), .val (.int p5), .val (.int p6), .val (.int gr), .val (.ref a2), .val (.int (1 : Int32)), .val (.int (1 : Int32)), .val (.int (1 : Int32)), .unset] []))
  refine OwnDone.go (A := (T13.setTop (mkF m 151 #[.val (.int p1), .val (.int p2), .val (.int p3), .val (.int p4), .val (.int p5), .val (.int p6), .val (.int gr), .val (.ref a2), .val (.int (1 : Int32)), .val (.int (1 : Int32)), .val (.int (1 : Int32)), .unset] [(.ref a2)]))) (fun tQ kQ => ?_) ?_
  · refine XS.aload P13.here hx rfl (hb hby at_149) rfl rfl ?_
    show Steps p.tables e below (T13.setTop (mkF m 151 #[.val (.int p1), .val (.int p2), .val (.int p3), .val (.int p4), .val (.int p5), .val (.int p6), .val (.int gr), .val (.ref a2), .val (.int (1 : Int32)), .val (.int (1 : Int32)), .val (.int (1 : Int32)), .unset] [(.ref a2)])) _
    exact kQ
  show OwnDone p e below _ (T13.setTop (mkF m 151 #[.val (.int p1), .val (.int p2), .val (.int p3), .val (.int p4), .val (.int p5), .val (.int p6), .val (.int gr), .val (.ref a2), .val (.int (1 : Int32)), .val (.int (1 : Int32)), .val (.int (1 : Int32)), .unset] [(.ref a2)]))
  refine own_getF C P13 (host := "") (Or.inl (hw _ (List.mem_of_getElem? (i := 54) rfl))) Via.refl (O2.2 5 _ _ _ _ rfl rfl) at_151 (fun T14 P14 => ?_)
  show OwnDone p e below _ (T14.setTop (mkF m 154 #[.val (.int p1), .val (.int p2), .val (.int p3), .val (.int p4), .val (.int p5), .val (.int p6), .val (.int gr), .val (.ref a2), .val (.int (1 : Int32)), .val (.int (1 : Int32)), .val (.int (1 : Int32)), .unset] [(.int (0 : Int32))]))
  refine OwnDone.go (A := (T14.setTop (mkF m 157 #[.val (.int p1), .val (.int p2), .val (.int p3), .val (.int p4), .val (.int p5), .val (.int p6), .val (.int gr), .val (.ref a2), .val (.int (1 : Int32)), .val (.int (1 : Int32)), .val (.int (1 : Int32)), .unset] []))) (fun tQ kQ => XS.ifNo P14.here hx rfl (hb hby at_154) rfl (XT.i0_ne_f (by decide)) kQ) ?_
  show OwnDone p e below _ (T14.setTop (mkF m 157 #[.val (.int p1), .val (.int p2), .val (.int p3), .val (.int p4), .val (.int p5), .val (.int p6), .val (.int gr), .val (.ref a2), .val (.int (1 : Int32)), .val (.int (1 : Int32)), .val (.int (1 : Int32)), .unset] []))
  refine OwnDone.go (A := (T14.setTop (mkF m 159 #[.val (.int p1), .val (.int p2), .val (.int p3), .val (.int p4), .val (.int p5), .val (.int p6), .val (.int gr), .val (.ref a2), .val (.int (1 : Int32)), .val (.int (1 : Int32)), .val (.int (1 : Int32)), .unset] [(.ref a2)]))) (fun tQ kQ => ?_) ?_
  · refine XS.aload P14.here hx rfl (hb hby at_157) rfl rfl ?_
    show Steps p.tables e below (T14.setTop (mkF m 159 #[.val (.int p1), .val (.int p2), .val (.int p3), .val (.int p4), .val (.int p5), .val (.int p6), .val (.int gr), .val (.ref a2), .val (.int (1 : Int32)), .val (.int (1 : Int32)), .val (.int (1 : Int32)), .unset] [(.ref a2)])) _
    exact kQ
  show OwnDone p e below _ (T14.setTop (mkF m 159 #[.val (.int p1), .val (.int p2), .val (.int p3), .val (.int p4), .val (.int p5), .val (.int p6), .val (.int gr), .val (.ref a2), .val (.int (1 : Int32)), .val (.int (1 : Int32)), .val (.int (1 : Int32)), .unset] [(.ref a2)]))
  refine own_getF C P14 (host := "") (Or.inl (hw _ (List.mem_of_getElem? (i := 55) rfl))) Via.refl (O2.2 6 _ _ _ _ rfl rfl) at_159 (fun T15 P15 => ?_)
  show OwnDone p e below _ (T15.setTop (mkF m 162 #[.val (.int p1), .val (.int p2), .val (.int p3), .val (.int p4), .val (.int p5), .val (.int p6), .val (.int gr), .val (.ref a2), .val (.int (1 : Int32)), .val (.int (1 : Int32)), .val (.int (1 : Int32)), .unset] [(.int (0 : Int32))]))
  refine OwnDone.go (A := (T15.setTop (mkF m 165 #[.val (.int p1), .val (.int p2), .val (.int p3), .val (.int p4), .val (.int p5), .val (.int p6), .val (.int gr), .val (.ref a2), .val (.int (1 : Int32)), .val (.int (1 : Int32)), .val (.int (1 : Int32)), .unset] []))) (fun tQ kQ => XS.ifNo P15.here hx rfl (hb hby at_162) rfl (XT.i0_ne_f (by decide)) kQ) ?_
  show OwnDone p e below _ (T15.setTop (mkF m 165 #[.val (.int p1), .val (.int p2), .val (.int p3), .val (.int p4), .val (.int p5), .val (.int p6), .val (.int gr), .val (.ref a2), .val (.int (1 : Int32)), .val (.int (1 : Int32)), .val (.int (1 : Int32)), .unset] []))
  refine OwnDone.go (A := (T15.setTop (mkF m 167 #[.val (.int p1), .val (.int p2), .val (.int p3), .val (.int p4), .val (.int p5), .val (.int p6), .val (.int gr), .val (.ref a2), .val (.int (1 : Int32)), .val (.int (1 : Int32)), .val (.int (1 : Int32)), .unset] [(.ref a2)]))) (fun tQ kQ => ?_) ?_
  · refine XS.aload P15.here hx rfl (hb hby at_165) rfl rfl ?_
    show Steps p.tables e below (T15.setTop (mkF m 167 #[.val (.int p1), .val (.int p2), .val (.int p3), .val (.int p4), .val (.int p5), .val (.int p6), .val (.int gr), .val (.ref a2), .val (.int (1 : Int32)), .val (.int (1 : Int32)), .val (.int (1 : Int32)), .unset] [(.ref a2)])) _
    exact kQ
  show OwnDone p e below _ (T15.setTop (mkF m 167 #[.val (.int p1), .val (.int p2), .val (.int p3), .val (.int p4), .val (.int p5), .val (.int p6), .val (.int gr), .val (.ref a2), .val (.int (1 : Int32)), .val (.int (1 : Int32)), .val (.int (1 : Int32)), .unset] [(.ref a2)]))
  refine own_getF C P15 (host := "") (Or.inl (hw _ (List.mem_of_getElem? (i := 56) rfl))) Via.refl (O2.2 12 _ _ _ _ rfl rfl) at_167 (fun T16 P16 => ?_)
  show OwnDone p e below _ (T16.setTop (mkF m 170 #[.val (.int p1), .val (.int p2), .val (.int p3), .val (.int p4), .val (.int p5), .val (.int p6), .val (.int gr), .val (.ref a2), .val (.int (1 : Int32)), .val (.int (1 : Int32)), .val (.int (1 : Int32)), .unset] [.null]))
  refine OwnDone.go (A := (T16.setTop (mkF m 173 #[.val (.int p1), .val (.int p2), .val (.int p3), .val (.int p4), .val (.int p5), .val (.int p6), .val (.int gr), .val (.ref a2), .val (.int (1 : Int32)), .val (.int (1 : Int32)), .val (.int (1 : Int32)), .unset] []))) (fun tQ kQ => XT.ifnonnullNo P16.here hx rfl (hb hby at_170) rfl kQ) ?_
  show OwnDone p e below _ (T16.setTop (mkF m 173 #[.val (.int p1), .val (.int p2), .val (.int p3), .val (.int p4), .val (.int p5), .val (.int p6), .val (.int gr), .val (.ref a2), .val (.int (1 : Int32)), .val (.int (1 : Int32)), .val (.int (1 : Int32)), .unset] []))
  refine OwnDone.go (A := (T16.setTop (mkF m 175 #[.val (.int p1), .val (.int p2), .val (.int p3), .val (.int p4), .val (.int p5), .val (.int p6), .val (.int gr), .val (.ref a2), .val (.int (1 : Int32)), .val (.int (1 : Int32)), .val (.int (1 : Int32)), .unset] [(.ref a2)]))) (fun tQ kQ => ?_) ?_
  · refine XS.aload P16.here hx rfl (hb hby at_173) rfl rfl ?_
    show Steps p.tables e below (T16.setTop (mkF m 175 #[.val (.int p1), .val (.int p2), .val (.int p3), .val (.int p4), .val (.int p5), .val (.int p6), .val (.int gr), .val (.ref a2), .val (.int (1 : Int32)), .val (.int (1 : Int32)), .val (.int (1 : Int32)), .unset] [(.ref a2)])) _
    exact kQ
  show OwnDone p e below _ (T16.setTop (mkF m 175 #[.val (.int p1), .val (.int p2), .val (.int p3), .val (.int p4), .val (.int p5), .val (.int p6), .val (.int gr), .val (.ref a2), .val (.int (1 : Int32)), .val (.int (1 : Int32)), .val (.int (1 : Int32)), .unset] [(.ref a2)]))
  refine own_getF C P16 (host := "") (Or.inl (hw _ (List.mem_of_getElem? (i := 57) rfl))) Via.refl (O2.2 13 _ _ _ _ rfl rfl) at_175 (fun T17 P17 => ?_)
  show OwnDone p e below _ (T17.setTop (mkF m 178 #[.val (.int p1), .val (.int p2), .val (.int p3), .val (.int p4), .val (.int p5), .val (.int p6), .val (.int gr), .val (.ref a2), .val (.int (1 : Int32)), .val (.int (1 : Int32)), .val (.int (1 : Int32)), .unset] [(.int (0 : Int32))]))
  refine OwnDone.go (A := (T17.setTop (mkF m 181 #[.val (.int p1), .val (.int p2), .val (.int p3), .val (.int p4), .val (.int p5), .val (.int p6), .val (.int gr), .val (.ref a2), .val (.int (1 : Int32)), .val (.int (1 : Int32)), .val (.int (1 : Int32)), .unset] []))) (fun tQ kQ => XS.ifNo P17.here hx rfl (hb hby at_178) rfl (XT.i0_ne_f (by decide)) kQ) ?_
  show OwnDone p e below _ (T17.setTop (mkF m 181 #[.val (.int p1), .val (.int p2), .val (.int p3), .val (.int p4), .val (.int p5), .val (.int p6), .val (.int gr), .val (.ref a2), .val (.int (1 : Int32)), .val (.int (1 : Int32)), .val (.int (1 : Int32)), .unset] []))
  refine OwnDone.go (A := (T17.setTop (mkF m 190 #[.val (.int p1), .val (.int p2), .val (.int p3), .val (.int p4), .val (.int p5), .val (.int p6), .val (.int gr), .val (.ref a2), .val (.int (1 : Int32)), .val (.int (1 : Int32)), .val (.int (1 : Int32)), .val (.int (1 : Int32))] [(.int (1 : Int32))]))) (fun tQ kQ => ?_) ?_
  · refine XS.iconst P17.here hx rfl (hb hby at_181) ?_
    show Steps p.tables e below (T17.setTop (mkF m 182 #[.val (.int p1), .val (.int p2), .val (.int p3), .val (.int p4), .val (.int p5), .val (.int p6), .val (.int gr), .val (.ref a2), .val (.int (1 : Int32)), .val (.int (1 : Int32)), .val (.int (1 : Int32)), .unset] [(.int (1 : Int32))])) _
    refine XS.goto P17.here hx rfl (pc0 := 182) (pc' := 186) rfl (hb hby at_182) (by decide) (by decide) ?_
    show Steps p.tables e below (T17.setTop (mkF m 186 #[.val (.int p1), .val (.int p2), .val (.int p3), .val (.int p4), .val (.int p5), .val (.int p6), .val (.int gr), .val (.ref a2), .val (.int (1 : Int32)), .val (.int (1 : Int32)), .val (.int (1 : Int32)), .unset] [(.int (1 : Int32))])) _
    refine XS.istore P17.here hx rfl (hb hby at_186) rfl (l' := #[.val (.int p1), .val (.int p2), .val (.int p3), .val (.int p4), .val (.int p5), .val (.int p6), .val (.int gr), .val (.ref a2), .val (.int (1 : Int32)), .val (.int (1 : Int32)), .val (.int (1 : Int32)), .val (.int (1 : Int32))]) rfl ?_
    show Steps p.tables e below (T17.setTop (mkF m 188 #[.val (.int p1), .val (.int p2), .val (.int p3), .val (.int p4), .val (.int p5), .val (.int p6), .val (.int gr), .val (.ref a2), .val (.int (1 : Int32)), .val (.int (1 : Int32)), .val (.int (1 : Int32)), .val (.int (1 : Int32))] [])) _
    refine XS.iload P17.here hx rfl (hb hby at_188) rfl ?_
    show Steps p.tables e below (T17.setTop (mkF m 190 #[.val (.int p1), .val (.int p2), .val (.int p3), .val (.int p4), .val (.int p5), .val (.int p6), .val (.int gr), .val (.ref a2), .val (.int (1 : Int32)), .val (.int (1 : Int32)), .val (.int (1 : Int32)), .val (.int (1 : Int32))] [(.int (1 : Int32))])) _
    exact kQ
  show OwnDone p e below _ (T17.setTop (mkF m 190 #[.val (.int p1), .val (.int p2), .val (.int p3), .val (.int p4), .val (.int p5), .val (.int p6), .val (.int gr), .val (.ref a2), .val (.int (1 : Int32)), .val (.int (1 : Int32)), .val (.int (1 : Int32)), .val (.int (1 : Int32))] [(.int (1 : Int32))]))
  refine OwnDone.go (A := (T17.setTop (mkF m 193 #[.val (.int p1), .val (.int p2), .val (.int p3), .val (.int p4), .val (.int p5), .val (.int p6), .val (.int gr), .val (.ref a2), .val (.int (1 : Int32)), .val (.int (1 : Int32)), .val (.int (1 : Int32)), .val (.int (1 : Int32))] []))) (fun tQ kQ => XS.ifNo P17.here hx rfl (hb hby at_190) rfl (XT.i0_eq_f (by decide)) kQ) ?_
  show OwnDone p e below _ (T17.setTop (mkF m 193 #[.val (.int p1), .val (.int p2), .val (.int p3), .val (.int p4), .val (.int p5), .val (.int p6), .val (.int gr), .val (.ref a2), .val (.int (1 : Int32)), .val (.int (1 : Int32)), .val (.int (1 : Int32)), .val (.int (1 : Int32))] []))
  refine OwnDone.go (A := (T17.setTop (mkF m 195 #[.val (.int p1), .val (.int p2), .val (.int p3), .val (.int p4), .val (.int p5), .val (.int p6), .val (.int gr), .val (.ref a2), .val (.int (1 : Int32)), .val (.int (1 : Int32)), .val (.int (1 : Int32)), .val (.int (1 : Int32))] [(.int (1 : Int32))]))) (fun tQ kQ => ?_) ?_
  · refine XS.iload P17.here hx rfl (hb hby at_193) rfl ?_
    show Steps p.tables e below (T17.setTop (mkF m 195 #[.val (.int p1), .val (.int p2), .val (.int p3), .val (.int p4), .val (.int p5), .val (.int p6), .val (.int gr), .val (.ref a2), .val (.int (1 : Int32)), .val (.int (1 : Int32)), .val (.int (1 : Int32)), .val (.int (1 : Int32))] [(.int (1 : Int32))])) _
    exact kQ
  show OwnDone p e below _ (T17.setTop (mkF m 195 #[.val (.int p1), .val (.int p2), .val (.int p3), .val (.int p4), .val (.int p5), .val (.int p6), .val (.int gr), .val (.ref a2), .val (.int (1 : Int32)), .val (.int (1 : Int32)), .val (.int (1 : Int32)), .val (.int (1 : Int32))] [(.int (1 : Int32))]))
  refine OwnDone.go (A := (T17.setTop (mkF m 198 #[.val (.int p1), .val (.int p2), .val (.int p3), .val (.int p4), .val (.int p5), .val (.int p6), .val (.int gr), .val (.ref a2), .val (.int (1 : Int32)), .val (.int (1 : Int32)), .val (.int (1 : Int32)), .val (.int (1 : Int32))] []))) (fun tQ kQ => XS.ifNo P17.here hx rfl (hb hby at_195) rfl (XT.i0_eq_f (by decide)) kQ) ?_
  show OwnDone p e below _ (T17.setTop (mkF m 198 #[.val (.int p1), .val (.int p2), .val (.int p3), .val (.int p4), .val (.int p5), .val (.int p6), .val (.int gr), .val (.ref a2), .val (.int (1 : Int32)), .val (.int (1 : Int32)), .val (.int (1 : Int32)), .val (.int (1 : Int32))] []))
  refine OwnDone.go (A := (T17.setTop (mkF m 200 #[.val (.int p1), .val (.int p2), .val (.int p3), .val (.int p4), .val (.int p5), .val (.int p6), .val (.int gr), .val (.ref a2), .val (.int (1 : Int32)), .val (.int (1 : Int32)), .val (.int (1 : Int32)), .val (.int (1 : Int32))] [(.int (1 : Int32))]))) (fun tQ kQ => ?_) ?_
  · refine XS.iload P17.here hx rfl (hb hby at_198) rfl ?_
    show Steps p.tables e below (T17.setTop (mkF m 200 #[.val (.int p1), .val (.int p2), .val (.int p3), .val (.int p4), .val (.int p5), .val (.int p6), .val (.int gr), .val (.ref a2), .val (.int (1 : Int32)), .val (.int (1 : Int32)), .val (.int (1 : Int32)), .val (.int (1 : Int32))] [(.int (1 : Int32))])) _
    exact kQ
  show OwnDone p e below _ (T17.setTop (mkF m 200 #[.val (.int p1), .val (.int p2), .val (.int p3), .val (.int p4), .val (.int p5), .val (.int p6), .val (.int gr), .val (.ref a2), .val (.int (1 : Int32)), .val (.int (1 : Int32)), .val (.int (1 : Int32)), .val (.int (1 : Int32))] [(.int (1 : Int32))]))
  refine OwnDone.go (A := (T17.setTop (mkF m 203 #[.val (.int p1), .val (.int p2), .val (.int p3), .val (.int p4), .val (.int p5), .val (.int p6), .val (.int gr), .val (.ref a2), .val (.int (1 : Int32)), .val (.int (1 : Int32)), .val (.int (1 : Int32)), .val (.int (1 : Int32))] []))) (fun tQ kQ => XS.ifNo P17.here hx rfl (hb hby at_200) rfl (XT.i0_eq_f (by decide)) kQ) ?_
  show OwnDone p e below _ (T17.setTop (mkF m 203 #[.val (.int p1), .val (.int p2), .val (.int p3), .val (.int p4), .val (.int p5), .val (.int p6), .val (.int gr), .val (.ref a2), .val (.int (1 : Int32)), .val (.int (1 : Int32)), .val (.int (1 : Int32)), .val (.int (1 : Int32))] []))
  refine OwnDone.go (A := (T17.setTop (mkF m 205 #[.val (.int p1), .val (.int p2), .val (.int p3), .val (.int p4), .val (.int p5), .val (.int p6), .val (.int gr), .val (.ref a2), .val (.int (1 : Int32)), .val (.int (1 : Int32)), .val (.int (1 : Int32)), .val (.int (1 : Int32))] [(.int (1 : Int32))]))) (fun tQ kQ => ?_) ?_
  · refine XS.iload P17.here hx rfl (hb hby at_203) rfl ?_
    show Steps p.tables e below (T17.setTop (mkF m 205 #[.val (.int p1), .val (.int p2), .val (.int p3), .val (.int p4), .val (.int p5), .val (.int p6), .val (.int gr), .val (.ref a2), .val (.int (1 : Int32)), .val (.int (1 : Int32)), .val (.int (1 : Int32)), .val (.int (1 : Int32))] [(.int (1 : Int32))])) _
    exact kQ
  show OwnDone p e below _ (T17.setTop (mkF m 205 #[.val (.int p1), .val (.int p2), .val (.int p3), .val (.int p4), .val (.int p5), .val (.int p6), .val (.int gr), .val (.ref a2), .val (.int (1 : Int32)), .val (.int (1 : Int32)), .val (.int (1 : Int32)), .val (.int (1 : Int32))] [(.int (1 : Int32))]))
  refine OwnDone.go (A := (T17.setTop (mkF m 208 #[.val (.int p1), .val (.int p2), .val (.int p3), .val (.int p4), .val (.int p5), .val (.int p6), .val (.int gr), .val (.ref a2), .val (.int (1 : Int32)), .val (.int (1 : Int32)), .val (.int (1 : Int32)), .val (.int (1 : Int32))] []))) (fun tQ kQ => XS.ifNo P17.here hx rfl (hb hby at_205) rfl (XT.i0_eq_f (by decide)) kQ) ?_
  show OwnDone p e below _ (T17.setTop (mkF m 208 #[.val (.int p1), .val (.int p2), .val (.int p3), .val (.int p4), .val (.int p5), .val (.int p6), .val (.int gr), .val (.ref a2), .val (.int (1 : Int32)), .val (.int (1 : Int32)), .val (.int (1 : Int32)), .val (.int (1 : Int32))] []))
  refine OwnDone.go (A := (T17.setTop (mkF m 213 #[.val (.int p1), .val (.int p2), .val (.int p3), .val (.int p4), .val (.int p5), .val (.int p6), .val (.int gr), .val (.ref a2), .val (.int (1 : Int32)), .val (.int (1 : Int32)), .val (.int (1 : Int32)), .val (.int (1 : Int32))] [(.int (1 : Int32))]))) (fun tQ kQ => ?_) ?_
  · refine XS.iconst P17.here hx rfl (hb hby at_208) ?_
    show Steps p.tables e below (T17.setTop (mkF m 209 #[.val (.int p1), .val (.int p2), .val (.int p3), .val (.int p4), .val (.int p5), .val (.int p6), .val (.int gr), .val (.ref a2), .val (.int (1 : Int32)), .val (.int (1 : Int32)), .val (.int (1 : Int32)), .val (.int (1 : Int32))] [(.int (1 : Int32))])) _
    refine XS.goto P17.here hx rfl (pc0 := 209) (pc' := 213) rfl (hb hby at_209) (by decide) (by decide) ?_
    show Steps p.tables e below (T17.setTop (mkF m 213 #[.val (.int p1), .val (.int p2), .val (.int p3), .val (.int p4), .val (.int p5), .val (.int p6), .val (.int gr), .val (.ref a2), .val (.int (1 : Int32)), .val (.int (1 : Int32)), .val (.int (1 : Int32)), .val (.int (1 : Int32))] [(.int (1 : Int32))])) _
    exact kQ
  show OwnDone p e below _ (T17.setTop (mkF m 213 #[.val (.int p1), .val (.int p2), .val (.int p3), .val (.int p4), .val (.int p5), .val (.int p6), .val (.int gr), .val (.ref a2), .val (.int (1 : Int32)), .val (.int (1 : Int32)), .val (.int (1 : Int32)), .val (.int (1 : Int32))] [(.int (1 : Int32))]))
  refine own_retN C P17 (by simp) (z' := (1 : Int32)) (by decide) at_213 (by decide) (by decide) rfl
set_option maxRecDepth 65536 in
set_option maxHeartbeats 40000000 in
theorem comes_1 {Post : Tables → Env → Array Value → State → Outcome → State → Prop} (hpost : ∀ tb e args s v u, (limb_1_1.after args s (.returned v) u = true ∧ limb_1_2.after args s (.returned v) u = true ∧ True) → FrameEnd s (.returned v) u (Jvm.fieldLocs frame_1_writes args s ++ Jvm.arrayLocs frame_1_arrays args s ++ Jvm.staticLocs frame_1_statics s) 16 128 → Post tb e args s (.returned v) u) :
    ArmFor flags0 classFile x code maxLocals ret World_1 tables_1 room_1 Calls_1 rest_1 Pre_1 Post := by
  intro l hfl _ _ p e ha hc hk s m args below hf hA hF happ hP
  obtain ⟨hcalls, hrest, hpre⟩ := hP
  obtain ⟨-, -, -, hnamed, -, -, -, hat⟩ := (Spec.applies_iff hf).mp happ
  obtain ⟨hg, hn⟩ := and_e (Cond.before_iff.mp (show (Jvm.Cond.and given_1 narrow_1).before args s = true from hpre))
  obtain ⟨hcount, hg⟩ := and_e hg
  obtain ⟨w0, w1, w2, w3, w4, w5, rfl⟩ : ∃ w0 w1 w2 w3 w4 w5 : Value, args = #[w0, w1, w2, w3, w4, w5] := by
    have hs : args.size = 6 := by simpa [Cond.value, given_1] using hcount
    obtain ⟨L⟩ := args
    match L, hs with
    | [w0, w1, w2, w3, w4, w5], _ => exact ⟨w0, w1, w2, w3, w4, w5, rfl⟩
  have hw := fun d (hd : d ∈ tables_1) => atoms_spec (ws := Jvm.Cond.code x code maxLocals ret :: tables_1) hat d (List.mem_cons_of_mem _ hd)
  have hfit : Fit s := fun {y c} hc i hi => by
    obtain ⟨ha, rfl⟩ := Array.getElem?_eq_some_iff.mp hc
    have q := List.all_eq_true.mp ((Array.all_eq_true_iff_forall_mem.mp hF) _ (Array.getElem_mem ha)) i (List.mem_range.mpr hi)
    simpa [Array.getElem?_eq_getElem hi] using q
  obtain ⟨hg0, hg⟩ := and_e hg
  obtain ⟨i0, ei0⟩ := is_v hg0
  obtain rfl : w0 = (.int i0) := Option.some.inj ei0
  obtain ⟨hg1, hg⟩ := and_e hg
  obtain ⟨i1, ei1⟩ := is_v hg1
  obtain rfl : w1 = (.int i1) := Option.some.inj ei1
  obtain ⟨hg2, hg⟩ := and_e hg
  obtain ⟨i2, ei2⟩ := is_v hg2
  obtain rfl : w2 = (.int i2) := Option.some.inj ei2
  obtain ⟨hg3, hg⟩ := and_e hg
  obtain ⟨i3, ei3⟩ := is_v hg3
  obtain rfl : w3 = (.int i3) := Option.some.inj ei3
  obtain ⟨hg4, hg⟩ := and_e hg
  obtain ⟨i4, ei4⟩ := is_v hg4
  obtain rfl : w4 = (.int i4) := Option.some.inj ei4
  obtain ⟨i5, ei5⟩ := is_v hg
  obtain rfl : w5 = (.int i5) := Option.some.inj ei5
  obtain ⟨b0, ev0⟩ := exa_v hn
  have S0 := Sta.start ev0 (Or.inr ⟨(hw _ (List.mem_of_getElem? (i := 7) rfl)), (hw _ (List.mem_of_getElem? (i := 8) rfl))⟩)
  obtain ⟨n, o, h1, h2, h3, _, L, rfl, ⟨rfl, -, N⟩, hq⟩ := rm0 l s _ hw i0 i1 i2 i3 i4 i5 s.heap ⟨Nat.le_refl _, fun _ _ q => q⟩ b0 S0 tables_1 p e ha hc hk s m _ below hf ((Spec.applies_iff_loose hf).mp happ).1 ⟨rfl, State.Warmed39.refl s, rfl⟩ trivial
  refine ⟨n, _, h1, h2, h3, hpost _ _ _ _ _ _ ⟨Cond.after_iff.mpr rfl, Cond.after_iff.mpr (eq_i res_at (Term.int_eval (1)) rfl), trivial⟩ ⟨hq.1, hq.2.1, (hq.2.2.sift fun y hy => Or.inr ((N y hy).elim (fun q => (nomatch q)) id)).mono (by decide) (by decide)⟩⟩
theorem main_1_1 : Claimed_1_1 := comes_1 fun _ _ _ _ _ _ h hF => ⟨h.1, hF⟩
theorem main_1_2 : Claimed_1_2 := comes_1 fun _ _ _ _ _ _ h hF => ⟨h.2.1, hF⟩
end Jvm.Pilot.@@N@@
namespace Jvm.Pilot.@@N@@
open Jvm Jvm.ClassFile Sem Op Lib Jvm.Free Jvm.Stand Jvm.Pilot.@@N@@.Jvm.D
/-! MADE BY PROGRAM (witnessworld.py) out of the Statement's table words and the real class files: 13 classes; the members and pool entries that the words name. The judged class is class 1, her method 1. -/
namespace start1
open Jvm.ClassFile
def u (s : String) : CpInfo := .utf8 (stringToUtf16 s)
/-- a pool by its gaps: so many unusable entries, then the entry; so many at the end -/
def gap : Nat → List CpInfo → List CpInfo
  | 0, r => r
  | n + 1, r => .unusable :: gap n r
def poolList (es : List (Nat × CpInfo)) (last : Nat) : List CpInfo := es.foldr (fun e r => gap e.1 (e.2 :: r)) (gap last [])
def pool (es : List (Nat × CpInfo)) (last : Nat) : Array CpInfo := ⟨poolList es last⟩
def fileOf (pool : Array CpInfo) (this : Nat) (attrs : Array Attribute := #[]) (ms : Array MethodInfo := #[]) (fl : Nat := 33) (sup : Nat := 0) (ifs : Array Nat := #[]) (fds : Array FieldInfo := #[]) : ClassFile where
  minorVersion := 0
  majorVersion := 65
  constantPool := pool
  accessFlags := fl
  thisClass := this
  superClass := sup
  interfaces := ifs
  fields := fds
  methods := ms
  attributes := attrs
def plain (name : String) (sup : Option ClassId) : Class where
  name := name
  kind := .ordinary
  loader := none
  accessFlags := 33
  super := sup
  interfaces := #[]
  cf := none
  fields := #[]
  methods := #[]
  instanceTypes := #[]
  staticTypes := #[]
  resolved := #[]
  callSites := []
  init := .initialized
  statics := none
  mirror := none

def pool0 : Array CpInfo := pool [(5, u "<init>"), (0, u "()V"), (1, .class_ 10), (1, u "java/lang/Object")] 113

def k0c0 : Code := { maxStack := 0, maxLocals := 1, code := object_method_1_code, exceptionTable := #[], attributes := #[] }
def k0m0 : Method := { name := "<init>", desc := "()V", sig := { parameters := [], returnType := none }, accessFlags := 1, code := some k0c0 }
/-- java/lang/Object -/
def k0 : Class := { plain "java/lang/Object" none with
  accessFlags := 33
  interfaces := #[]
  cf := some (fileOf pool0 8 #[] #[{ accessFlags := 1, nameIndex := 5, descriptorIndex := 6, attributes := #[] }] 33 0 #[] #[])
  fields := #[]
  methods := #[k0m0]
  instanceTypes := #[]
  staticTypes := #[]
  resolved := Array.replicate 124 none
  statics := none }

def pool1 : Array CpInfo := pool [(2, .class_ 4), (1, u "java/lang/Object"), (0, u "<init>"), (0, u "()V"), (0, .methodref 8 9), (0, .class_ 10), (0, .nameAndType 11 12), (0, u "com/example/bounded_array/boundedarray/regex/Node"), (0, u "repetition"), (0, u "(IIZIII)Lcom/example/bounded_array/boundedarray/regex/Node;"), (0, .fieldref 8 14), (0, .nameAndType 15 16), (0, u "kind"), (0, u "Lcom/example/bounded_array/boundedarray/regex/Node$Kind;"), (0, .fieldref 18 19), (0, .class_ 20), (0, .nameAndType 21 16), (0, u "com/example/bounded_array/boundedarray/regex/Node$Kind"), (0, u "REPETITION"), (0, .fieldref 8 23), (0, .nameAndType 24 25), (0, u "size"), (0, u "I"), (0, .fieldref 8 27), (0, .nameAndType 28 25), (0, u "min"), (0, .fieldref 8 30), (0, .nameAndType 31 25), (0, u "max"), (0, .fieldref 8 33), (0, .nameAndType 34 35), (0, u "greedy"), (0, u "Z"), (0, .fieldref 8 37), (0, .nameAndType 38 25), (0, u "firstGroup"), (0, .fieldref 8 40), (0, .nameAndType 41 25), (0, u "groups"), (0, .fieldref 8 43), (0, .nameAndType 44 45), (0, u "set"), (0, u "Lcom/example/bounded_array/boundedarray/regex/CodePointSet;"), (0, .fieldref 8 47), (0, .nameAndType 48 49), (0, u "assertion"), (0, u "Lcom/example/bounded_array/boundedarray/regex/Node$Assertion;"), (0, .fieldref 8 51), (0, .nameAndType 52 25), (0, u "number"), (0, .fieldref 8 54), (0, .nameAndType 55 35), (0, u "behind"), (0, .fieldref 8 57), (0, .nameAndType 58 35), (0, u "negated"), (0, .fieldref 8 60), (0, .nameAndType 61 62), (0, u "referredGroups"), (0, u "[I"), (0, .fieldref 8 64), (0, .nameAndType 65 35), (0, u "caseless"), (0, .class_ 67), (0, u "com/example/bounded_array/boundedarray/regex/NodeRepetitionPinLaw"), (2, u "law"), (0, u "(IIIIII)Z")] 8

def k1m0 : Method := { name := "<init>", desc := "()V", sig := { parameters := [], returnType := none }, accessFlags := 2, code := none }
def k1c1 : Code := { maxStack := 6, maxLocals := 12, code := code, exceptionTable := #[], attributes := #[] }
def k1m1 : Method := { name := "law", desc := "(IIIIII)Z", sig := { parameters := [.int, .int, .int, .int, .int, .int], returnType := some .boolean }, accessFlags := 9, code := some k1c1 }
/-- com/example/bounded_array/boundedarray/regex/NodeRepetitionPinLaw -/
def k1 : Class := { plain "com/example/bounded_array/boundedarray/regex/NodeRepetitionPinLaw" (some 0) with
  accessFlags := 49
  interfaces := #[]
  cf := some (fileOf pool1 66 #[] #[{ accessFlags := 2, nameIndex := 5, descriptorIndex := 6, attributes := #[] }, { accessFlags := 9, nameIndex := 70, descriptorIndex := 71, attributes := #[] }] 49 2 #[] #[])
  fields := #[]
  methods := #[k1m0, k1m1]
  instanceTypes := #[]
  staticTypes := #[]
  resolved := Array.replicate 80 none
  statics := none }

def pool2 : Array CpInfo := pool [(1, .methodref 2 3), (0, .class_ 4), (0, .nameAndType 5 6), (0, u "com/example/bounded_array/boundedarray/regex/Node"), (0, u "<init>"), (0, u "(Lcom/example/bounded_array/boundedarray/regex/Node$Kind;ILcom/example/bounded_array/boundedarray/regex/CodePointSet;Lcom/example/bounded_array/boundedarray/regex/Node$Assertion;IZZIIZII[IZ)V"), (0, .methodref 8 9), (0, .class_ 10), (0, .nameAndType 5 11), (0, u "java/lang/Object"), (0, u "()V"), (0, .fieldref 2 13), (0, .nameAndType 14 15), (0, u "kind"), (0, u "Lcom/example/bounded_array/boundedarray/regex/Node$Kind;"), (0, .fieldref 2 17), (0, .nameAndType 18 19), (0, u "size"), (0, u "I"), (0, .fieldref 2 21), (0, .nameAndType 22 23), (0, u "set"), (0, u "Lcom/example/bounded_array/boundedarray/regex/CodePointSet;"), (0, .fieldref 2 25), (0, .nameAndType 26 27), (0, u "assertion"), (0, u "Lcom/example/bounded_array/boundedarray/regex/Node$Assertion;"), (0, .fieldref 2 29), (0, .nameAndType 30 19), (0, u "number"), (0, .fieldref 2 32), (0, .nameAndType 33 34), (0, u "behind"), (0, u "Z"), (0, .fieldref 2 36), (0, .nameAndType 37 34), (0, u "negated"), (0, .fieldref 2 39), (0, .nameAndType 40 19), (0, u "min"), (0, .fieldref 2 42), (0, .nameAndType 43 19), (0, u "max"), (0, .fieldref 2 45), (0, .nameAndType 46 34), (0, u "greedy"), (0, .fieldref 2 48), (0, .nameAndType 49 19), (0, u "firstGroup"), (0, .fieldref 2 51), (0, .nameAndType 52 19), (0, u "groups"), (0, .fieldref 2 54), (0, .nameAndType 55 56), (0, u "referredGroups"), (0, u "[I"), (0, .fieldref 2 58), (0, .nameAndType 59 34), (0, u "caseless"), (1, .class_ 63), (1, u "com/example/bounded_array/boundedarray/regex/Node$Kind"), (25, .fieldref 61 90), (0, .nameAndType 91 15), (0, u "REPETITION"), (0, u "UNBOUNDED"), (17, u "repetition"), (0, u "(IIZIII)Lcom/example/bounded_array/boundedarray/regex/Node;"), (3, .class_ 116), (0, u "com/example/bounded_array/boundedarray/regex/Node$Assertion")] 3

def k2c0 : Code := { maxStack := 2, maxLocals := 15, code := prog_16_method_2_code, exceptionTable := #[], attributes := #[] }
def k2m0 : Method := { name := "<init>", desc := "(Lcom/example/bounded_array/boundedarray/regex/Node$Kind;ILcom/example/bounded_array/boundedarray/regex/CodePointSet;Lcom/example/bounded_array/boundedarray/regex/Node$Assertion;IZZIIZII[IZ)V", sig := { parameters := [(.object "com/example/bounded_array/boundedarray/regex/Node$Kind"), .int, (.object "com/example/bounded_array/boundedarray/regex/CodePointSet"), (.object "com/example/bounded_array/boundedarray/regex/Node$Assertion"), .int, .boolean, .boolean, .int, .int, .boolean, .int, .int, (.array .int), .boolean], returnType := none }, accessFlags := 2, code := some k2c0 }
def k2c1 : Code := { maxStack := 16, maxLocals := 6, code := prog_16_method_11_code, exceptionTable := #[], attributes := #[] }
def k2m1 : Method := { name := "repetition", desc := "(IIZIII)Lcom/example/bounded_array/boundedarray/regex/Node;", sig := { parameters := [.int, .int, .boolean, .int, .int, .int], returnType := some (.object "com/example/bounded_array/boundedarray/regex/Node") }, accessFlags := 8, code := some k2c1 }
/-- com/example/bounded_array/boundedarray/regex/Node -/
def k2 : Class := { plain "com/example/bounded_array/boundedarray/regex/Node" (some 0) with
  accessFlags := 48
  interfaces := #[]
  cf := some (fileOf pool2 2 #[.nestMembers #[115, 61]] #[{ accessFlags := 2, nameIndex := 5, descriptorIndex := 6, attributes := #[] }, { accessFlags := 8, nameIndex := 110, descriptorIndex := 111, attributes := #[] }] 48 8 #[] #[{ accessFlags := 24, nameIndex := 92, descriptorIndex := 19, attributes := #[] }, { accessFlags := 16, nameIndex := 14, descriptorIndex := 15, attributes := #[] }, { accessFlags := 16, nameIndex := 18, descriptorIndex := 19, attributes := #[] }, { accessFlags := 16, nameIndex := 22, descriptorIndex := 23, attributes := #[] }, { accessFlags := 16, nameIndex := 26, descriptorIndex := 27, attributes := #[] }, { accessFlags := 16, nameIndex := 30, descriptorIndex := 19, attributes := #[] }, { accessFlags := 16, nameIndex := 33, descriptorIndex := 34, attributes := #[] }, { accessFlags := 16, nameIndex := 37, descriptorIndex := 34, attributes := #[] }, { accessFlags := 16, nameIndex := 40, descriptorIndex := 19, attributes := #[] }, { accessFlags := 16, nameIndex := 43, descriptorIndex := 19, attributes := #[] }, { accessFlags := 16, nameIndex := 46, descriptorIndex := 34, attributes := #[] }, { accessFlags := 16, nameIndex := 49, descriptorIndex := 19, attributes := #[] }, { accessFlags := 16, nameIndex := 52, descriptorIndex := 19, attributes := #[] }, { accessFlags := 16, nameIndex := 55, descriptorIndex := 56, attributes := #[] }, { accessFlags := 16, nameIndex := 59, descriptorIndex := 34, attributes := #[] }])
  fields := #[{ name := "UNBOUNDED", type := .int, accessFlags := 24, slot := 0, constantValue := 0 }, { name := "kind", type := (.object "com/example/bounded_array/boundedarray/regex/Node$Kind"), accessFlags := 16, slot := 0, constantValue := 0 }, { name := "size", type := .int, accessFlags := 16, slot := 1, constantValue := 0 }, { name := "set", type := (.object "com/example/bounded_array/boundedarray/regex/CodePointSet"), accessFlags := 16, slot := 2, constantValue := 0 }, { name := "assertion", type := (.object "com/example/bounded_array/boundedarray/regex/Node$Assertion"), accessFlags := 16, slot := 3, constantValue := 0 }, { name := "number", type := .int, accessFlags := 16, slot := 4, constantValue := 0 }, { name := "behind", type := .boolean, accessFlags := 16, slot := 5, constantValue := 0 }, { name := "negated", type := .boolean, accessFlags := 16, slot := 6, constantValue := 0 }, { name := "min", type := .int, accessFlags := 16, slot := 7, constantValue := 0 }, { name := "max", type := .int, accessFlags := 16, slot := 8, constantValue := 0 }, { name := "greedy", type := .boolean, accessFlags := 16, slot := 9, constantValue := 0 }, { name := "firstGroup", type := .int, accessFlags := 16, slot := 10, constantValue := 0 }, { name := "groups", type := .int, accessFlags := 16, slot := 11, constantValue := 0 }, { name := "referredGroups", type := (.array .int), accessFlags := 16, slot := 12, constantValue := 0 }, { name := "caseless", type := .boolean, accessFlags := 16, slot := 13, constantValue := 0 }]
  methods := #[k2m0, k2m1]
  instanceTypes := #[(.object "com/example/bounded_array/boundedarray/regex/Node$Kind"), .int, (.object "com/example/bounded_array/boundedarray/regex/CodePointSet"), (.object "com/example/bounded_array/boundedarray/regex/Node$Assertion"), .int, .boolean, .boolean, .int, .int, .boolean, .int, .int, (.array .int), .boolean]
  staticTypes := #[.int]
  resolved := Array.replicate 120 none
  statics := none }

def pool3 : Array CpInfo := pool [(1, .class_ 2), (0, u "java/lang/constant/Constable"), (0, .class_ 4), (0, u "java/lang/Object")] 6

/-- java/lang/constant/Constable -/
def k3 : Class := { plain "java/lang/constant/Constable" (some 0) with
  accessFlags := 1537
  interfaces := #[]
  cf := some (fileOf pool3 1 #[] #[] 1537 3 #[] #[])
  fields := #[]
  methods := #[]
  instanceTypes := #[]
  staticTypes := #[]
  resolved := Array.replicate 11 none
  statics := none }

def pool4 : Array CpInfo := pool [(1, .class_ 2), (0, u "java/lang/Comparable"), (0, .class_ 4), (0, u "java/lang/Object")] 7

/-- java/lang/Comparable -/
def k4 : Class := { plain "java/lang/Comparable" (some 0) with
  accessFlags := 1537
  interfaces := #[]
  cf := some (fileOf pool4 1 #[] #[] 1537 3 #[] #[])
  fields := #[]
  methods := #[]
  instanceTypes := #[]
  staticTypes := #[]
  resolved := Array.replicate 12 none
  statics := none }

def pool5 : Array CpInfo := pool [(1, .class_ 2), (0, u "java/io/Serializable"), (0, .class_ 4), (0, u "java/lang/Object")] 2

/-- java/io/Serializable -/
def k5 : Class := { plain "java/io/Serializable" (some 0) with
  accessFlags := 1537
  interfaces := #[]
  cf := some (fileOf pool5 1 #[] #[] 1537 3 #[] #[])
  fields := #[]
  methods := #[]
  instanceTypes := #[]
  staticTypes := #[]
  resolved := Array.replicate 7 none
  statics := none }

def pool6 : Array CpInfo := pool [(2, .class_ 4), (1, u "java/lang/Enum"), (0, u "name"), (0, u "Ljava/lang/String;"), (2, u "ordinal"), (0, u "I"), (1, .class_ 14), (1, u "java/lang/Object"), (4, u "hash"), (86, .class_ 108), (1, u "java/lang/Enum$EnumDesc"), (2, .class_ 112), (0, u "java/lang/constant/Constable"), (0, .class_ 114), (0, u "java/lang/Comparable"), (0, .class_ 116), (0, u "java/io/Serializable")] 87

/-- java/lang/Enum -/
def k6 : Class := { plain "java/lang/Enum" (some 0) with
  accessFlags := 1057
  interfaces := #[3, 4, 5]
  cf := some (fileOf pool6 2 #[.nestMembers #[106]] #[] 1057 12 #[111, 113, 115] #[{ accessFlags := 18, nameIndex := 5, descriptorIndex := 6, attributes := #[] }, { accessFlags := 18, nameIndex := 9, descriptorIndex := 10, attributes := #[] }, { accessFlags := 2, nameIndex := 19, descriptorIndex := 10, attributes := #[] }])
  fields := #[{ name := "name", type := (.object "java/lang/String"), accessFlags := 18, slot := 0, constantValue := 0 }, { name := "ordinal", type := .int, accessFlags := 18, slot := 1, constantValue := 0 }, { name := "hash", type := .int, accessFlags := 2, slot := 2, constantValue := 0 }]
  methods := #[]
  instanceTypes := #[(.object "java/lang/String"), .int, .int]
  staticTypes := #[]
  resolved := Array.replicate 204 none
  statics := none }

def pool7 : Array CpInfo := pool [(1, .class_ 2), (0, u "com/example/bounded_array/boundedarray/regex/Node$Kind"), (2, u "EMPTY"), (0, u "Lcom/example/bounded_array/boundedarray/regex/Node$Kind;"), (2, u "CHARACTERS"), (2, u "ASSERTION"), (2, u "BACKREFERENCE"), (2, u "SEQUENCE"), (2, u "ALTERNATION"), (2, u "GROUP"), (2, u "LOOKAROUND"), (2, u "REPETITION"), (2, u "$VALUES"), (0, u "[Lcom/example/bounded_array/boundedarray/regex/Node$Kind;"), (6, .class_ 43), (1, u "java/lang/Enum"), (32, .class_ 77), (0, u "com/example/bounded_array/boundedarray/regex/Node")] 2

/-- com/example/bounded_array/boundedarray/regex/Node$Kind -/
def k7 : Class := { plain "com/example/bounded_array/boundedarray/regex/Node$Kind" (some 6) with
  accessFlags := 16432
  interfaces := #[]
  cf := some (fileOf pool7 1 #[.nestHost 76] #[] 16432 41 #[] #[{ accessFlags := 16409, nameIndex := 5, descriptorIndex := 6, attributes := #[] }, { accessFlags := 16409, nameIndex := 9, descriptorIndex := 6, attributes := #[] }, { accessFlags := 16409, nameIndex := 12, descriptorIndex := 6, attributes := #[] }, { accessFlags := 16409, nameIndex := 15, descriptorIndex := 6, attributes := #[] }, { accessFlags := 16409, nameIndex := 18, descriptorIndex := 6, attributes := #[] }, { accessFlags := 16409, nameIndex := 21, descriptorIndex := 6, attributes := #[] }, { accessFlags := 16409, nameIndex := 24, descriptorIndex := 6, attributes := #[] }, { accessFlags := 16409, nameIndex := 27, descriptorIndex := 6, attributes := #[] }, { accessFlags := 16409, nameIndex := 30, descriptorIndex := 6, attributes := #[] }, { accessFlags := 4122, nameIndex := 33, descriptorIndex := 34, attributes := #[] }])
  fields := #[{ name := "EMPTY", type := (.object "com/example/bounded_array/boundedarray/regex/Node$Kind"), accessFlags := 16409, slot := 0, constantValue := 0 }, { name := "CHARACTERS", type := (.object "com/example/bounded_array/boundedarray/regex/Node$Kind"), accessFlags := 16409, slot := 1, constantValue := 0 }, { name := "ASSERTION", type := (.object "com/example/bounded_array/boundedarray/regex/Node$Kind"), accessFlags := 16409, slot := 2, constantValue := 0 }, { name := "BACKREFERENCE", type := (.object "com/example/bounded_array/boundedarray/regex/Node$Kind"), accessFlags := 16409, slot := 3, constantValue := 0 }, { name := "SEQUENCE", type := (.object "com/example/bounded_array/boundedarray/regex/Node$Kind"), accessFlags := 16409, slot := 4, constantValue := 0 }, { name := "ALTERNATION", type := (.object "com/example/bounded_array/boundedarray/regex/Node$Kind"), accessFlags := 16409, slot := 5, constantValue := 0 }, { name := "GROUP", type := (.object "com/example/bounded_array/boundedarray/regex/Node$Kind"), accessFlags := 16409, slot := 6, constantValue := 0 }, { name := "LOOKAROUND", type := (.object "com/example/bounded_array/boundedarray/regex/Node$Kind"), accessFlags := 16409, slot := 7, constantValue := 0 }, { name := "REPETITION", type := (.object "com/example/bounded_array/boundedarray/regex/Node$Kind"), accessFlags := 16409, slot := 8, constantValue := 0 }, { name := "$VALUES", type := (.array (.object "com/example/bounded_array/boundedarray/regex/Node$Kind")), accessFlags := 4122, slot := 9, constantValue := 0 }]
  methods := #[]
  instanceTypes := #[(.object "java/lang/String"), .int, .int]
  staticTypes := #[(.object "com/example/bounded_array/boundedarray/regex/Node$Kind"), (.object "com/example/bounded_array/boundedarray/regex/Node$Kind"), (.object "com/example/bounded_array/boundedarray/regex/Node$Kind"), (.object "com/example/bounded_array/boundedarray/regex/Node$Kind"), (.object "com/example/bounded_array/boundedarray/regex/Node$Kind"), (.object "com/example/bounded_array/boundedarray/regex/Node$Kind"), (.object "com/example/bounded_array/boundedarray/regex/Node$Kind"), (.object "com/example/bounded_array/boundedarray/regex/Node$Kind"), (.object "com/example/bounded_array/boundedarray/regex/Node$Kind"), (.array (.object "com/example/bounded_array/boundedarray/regex/Node$Kind"))]
  resolved := Array.replicate 80 none
  statics := some 0 }

def pool8 : Array CpInfo := pool [(1, u "java/lang/Cloneable"), (0, .class_ 1), (0, u "java/lang/Object"), (0, .class_ 3)] 3

/-- java/lang/Cloneable -/
def k8 : Class := { plain "java/lang/Cloneable" (some 0) with
  accessFlags := 1537
  interfaces := #[]
  cf := some (fileOf pool8 2 #[] #[] 1537 4 #[] #[])
  fields := #[]
  methods := #[]
  instanceTypes := #[]
  staticTypes := #[]
  resolved := Array.replicate 8 none
  statics := none }

/-- the primitive byte -/
def k9 : Class := { plain "byte" none with kind := .primitive 'B', accessFlags := 0x411 }
/-- [B -/
def k10 : Class := { plain "[B" (some 0) with kind := .array 9 .byte, interfaces := #[8, 5], accessFlags := 1041 }

/-- the primitive int -/
def k11 : Class := { plain "int" none with kind := .primitive 'I', accessFlags := 0x411 }
/-- [I -/
def k12 : Class := { plain "[I" (some 0) with kind := .array 11 .int, interfaces := #[8, 5], accessFlags := 1041 }

def heap : Heap := #[{ cls := 7, slots := #[.null, .null, .null, .null, .null, .null, .null, .null, .ref 1, .null], vm := .statics 7 },
  { cls := 7, slots := #[.null, .int 6, .int 0], vm := .none }]
def classes : Array Class := #[k0, k1, k2, k3, k4, k5, k6, k7, k8, k9, k10, k11, k12]
def interned : List (Array UInt16 × Addr) := []
def slotsUsed : Nat := 13
def theMethod : MethodId := ⟨1, 1⟩
def args0 : Array Value := #[.int 5, .int 7, .int 3, .int 1, .int 2, .int 9]
def aboutOver (below : List Frame) : State where
  vm := { classes := classes, interned := interned.toArray }
  heap := heap
  slotsUsed := slotsUsed
  threads := #[{ frames := .invoking theMethod args0 :: below }]
def below0 : List Frame := [.native { method := ⟨0, 0⟩, args := #[] }]
def about1 : State := aboutOver below0
def p0 : Program := .bare "" "" ""
def e0 : Env := launch0.env 0 0 0
theorem w_frames : about1.frames = Frame.invoking theMethod args0 :: below0 := rfl
set_option maxRecDepth 65536 in
theorem w_args : argsFit about1.vm theMethod args0 = true := by decide +kernel
set_option maxRecDepth 65536 in
theorem w_heap : heapFits about1 = true := by decide +kernel
set_option maxRecDepth 65536 in
theorem w_runnable : about1.curStatus? = some .runnable := by decide +kernel
set_option maxRecDepth 65536 in
theorem w_alone : about1.alone = true := by decide +kernel
set_option maxRecDepth 65536 in
theorem w_named : about1.methodNamed? x = some theMethod := by decide +kernel
set_option maxRecDepth 65536 in
theorem w_hears : about1.hears theMethod below0 = true := by decide +kernel
set_option maxRecDepth 65536 in
theorem w_ripe : about1.ripe theMethod args0 below0 = true := by decide +kernel
theorem w_running : about1.status = .running := rfl
set_option maxRecDepth 65536 in
theorem w_room : about1.hasRoom e0.platform room_1 = true :=
  launch0.hasRoom_least _ room_1 (by decide +kernel) (by decide +kernel) (by decide +kernel) (by decide +kernel) (by decide +kernel) (by decide +kernel)
theorem allAtoms_all (ts : List Jvm.Cond) (a : Array Jvm.Value) (st : Jvm.State) : (allAtoms ts).before a st = ts.all (fun c => c.before a st) := by
  induction ts with
  | nil => rfl
  | cons c t ih =>
    show (Jvm.Cond.and c (allAtoms t)).before a st = _
    rw [Jvm.Cond.before_and, ih, List.all_cons]
def words1 : List Jvm.Cond := Jvm.Cond.code x code maxLocals ret :: tables_1
/-- a 'code' word, met by the world's own term for the bytes: nothing is compared byte by byte -/
theorem code_word {y : MethodName} {bytes : ByteArray} {mx : Nat} {rt : Option FieldType} {a : Array Value} {s : State} {m : MethodId} {meth : Method} {c : Code} (h1 : s.methodNamed? y = some m) (h2 : s.vm.method? m = some meth) (h3 : meth.code = some c) (h4 : c.code = bytes)
    (h5 : (c.maxLocals == mx && c.exceptionTable.isEmpty && decide (c.maxStack ≤ mostOperands) && decide (meth.sig.returnType = rt) && !meth.locks && decide (parseMethodDescriptor y.desc = some meth.sig)) = true) : (Jvm.Cond.code y bytes mx rt).before a s = true := by
  simp only [Bool.and_eq_true, beq_iff_eq, Bool.not_eq_true', decide_eq_true_eq] at h5
  obtain ⟨⟨⟨⟨⟨g1, g2⟩, g3⟩, g4⟩, g5⟩, g6⟩ := h5
  simp [Cond.before, Cond.holds, Cond.value, h1, h2, h3, h4, g1, g2, g3, g4, g5, g6]
def isCode : Jvm.Cond → Bool
  | .code _ _ _ _ => true
  | _ => false
theorem all_split {L : List Jvm.Cond} {P : Jvm.Cond → Bool} (h1 : L.all (fun c => isCode c || P c) = true) (h2 : ∀ c ∈ L.filter isCode, P c = true) : L.all P = true := by
  refine List.all_eq_true.mpr fun c hc => ?_
  have h := List.all_eq_true.mp h1 c hc
  rcases Bool.eq_false_or_eq_true (isCode c) with hi | hi
  · exact h2 c (List.mem_filter.mpr ⟨hc, hi⟩)
  · simpa [hi] using h
set_option maxRecDepth 65536 in
theorem w_c0 : (Jvm.Cond.code x code maxLocals ret).before args0 about1 = true := code_word (m := ⟨1, 1⟩) (meth := k1m1) (c := k1c1) (by decide +kernel) rfl rfl rfl (by decide +kernel)
set_option maxRecDepth 65536 in
theorem w_c1 : (Jvm.Cond.code ({ cls := "com/example/bounded_array/boundedarray/regex/Node", name := "repetition", desc := "(IIZIII)Lcom/example/bounded_array/boundedarray/regex/Node;" } : Jvm.MethodName) prog_16_method_11_code (6 : Nat) (Option.some (Jvm.ClassFile.FieldType.object "com/example/bounded_array/boundedarray/regex/Node"))).before args0 about1 = true := code_word (m := ⟨2, 1⟩) (meth := k2m1) (c := k2c1) (by decide +kernel) rfl rfl rfl (by decide +kernel)
set_option maxRecDepth 65536 in
theorem w_c2 : (Jvm.Cond.code ({ cls := "com/example/bounded_array/boundedarray/regex/Node", name := "<init>", desc := "(Lcom/example/bounded_array/boundedarray/regex/Node$Kind;ILcom/example/bounded_array/boundedarray/regex/CodePointSet;Lcom/example/bounded_array/boundedarray/regex/Node$Assertion;IZZIIZII[IZ)V" } : Jvm.MethodName) prog_16_method_2_code (15 : Nat) (Option.none : Option Jvm.ClassFile.FieldType)).before args0 about1 = true := code_word (m := ⟨2, 0⟩) (meth := k2m0) (c := k2c0) (by decide +kernel) rfl rfl rfl (by decide +kernel)
set_option maxRecDepth 65536 in
theorem w_c3 : (Jvm.Cond.code ({ cls := "java/lang/Object", name := "<init>", desc := "()V" } : Jvm.MethodName) object_method_1_code (1 : Nat) (Option.none : Option Jvm.ClassFile.FieldType)).before args0 about1 = true := code_word (m := ⟨0, 0⟩) (meth := k0m0) (c := k0c0) (by decide +kernel) rfl rfl rfl (by decide +kernel)
def codes1 : List Jvm.Cond := [Jvm.Cond.code x code maxLocals ret, Jvm.Cond.code ({ cls := "com/example/bounded_array/boundedarray/regex/Node", name := "repetition", desc := "(IIZIII)Lcom/example/bounded_array/boundedarray/regex/Node;" } : Jvm.MethodName) prog_16_method_11_code (6 : Nat) (Option.some (Jvm.ClassFile.FieldType.object "com/example/bounded_array/boundedarray/regex/Node")), Jvm.Cond.code ({ cls := "com/example/bounded_array/boundedarray/regex/Node", name := "<init>", desc := "(Lcom/example/bounded_array/boundedarray/regex/Node$Kind;ILcom/example/bounded_array/boundedarray/regex/CodePointSet;Lcom/example/bounded_array/boundedarray/regex/Node$Assertion;IZZIIZII[IZ)V" } : Jvm.MethodName) prog_16_method_2_code (15 : Nat) (Option.none : Option Jvm.ClassFile.FieldType), Jvm.Cond.code ({ cls := "java/lang/Object", name := "<init>", desc := "()V" } : Jvm.MethodName) object_method_1_code (1 : Nat) (Option.none : Option Jvm.ClassFile.FieldType)]
set_option maxRecDepth 65536 in
theorem codes_eq : words1.filter isCode = codes1 := rfl
theorem w_codes : ∀ c ∈ words1.filter isCode, c.before args0 about1 = true := by
  rw [codes_eq]
  intro c hc
  simp only [codes1, List.mem_cons, List.not_mem_nil, or_false] at hc
  rcases hc with rfl | rfl | rfl | rfl
  · exact w_c0
  · exact w_c1
  · exact w_c2
  · exact w_c3
set_option maxRecDepth 65536 in
theorem w_t1 : (words1.take 24).all (fun c => isCode c || c.before args0 about1) = true := by decide +kernel
set_option maxRecDepth 65536 in
theorem w_t2 : ((words1.drop 24).take 24).all (fun c => isCode c || c.before args0 about1) = true := by decide +kernel
set_option maxRecDepth 65536 in
theorem w_t3 : ((words1.drop 24).drop 24).all (fun c => isCode c || c.before args0 about1) = true := by decide +kernel
theorem w_tables : (allAtoms (Jvm.Cond.code x code maxLocals ret :: tables_1)).before args0 about1 = true := by
  rw [allAtoms_all]
  show words1.all (fun c => c.before args0 about1) = true
  refine all_split ?_ w_codes
  rw [← List.take_append_drop 24 words1, List.all_append, w_t1, ← List.take_append_drop 24 (words1.drop 24), List.all_append, w_t2, w_t3]
  rfl
set_option maxRecDepth 65536 in
theorem w_case : (Jvm.Cond.and given_1 narrow_1).before args0 about1 = true := by decide +kernel
theorem w_applies : (headSpec (Jvm.Cond.code x code maxLocals ret :: tables_1) room_1).applies x e0.platform about1 = true :=
  (Spec.applies_iff w_frames).mpr ⟨w_running, w_runnable, w_alone, w_named, w_hears, w_ripe, w_room, w_tables⟩
theorem atStart : AtStart classFile x code maxLocals ret World_1 tables_1 room_1 Calls_1 rest_1 Pre_1 launch0 p0 e0 about1 theMethod args0 below0 :=
  ⟨lists_1, trivial, launch0.admits_env _ _ _, launch0.least_env, fairChoices_fair.cas, fairChoices_fair.clock, w_frames, w_args, w_heap, w_applies, trivial, trivial, w_case⟩
end start1
theorem witness_1 : WitnessClaimed_1 := ⟨start1.p0, start1.e0, start1.about1, start1.theMethod, start1.args0, start1.below0, start1.atStart⟩
end Jvm.Pilot.@@N@@
